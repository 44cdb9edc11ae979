import PyProof.Rows.All
import Wide.All
import OpenK.AllK
import Wide.FinOn
import Lean
import PySem.Challenge.RW_tc0021_01
open PySem PySem.W PyProof.Rows PySem.Calls
set_option Elab.async false
set_option maxRecDepth 100000
set_option linter.all false

-- part 1
namespace Mine

theorem nn {α : Type _} {x : Option α} (h : ∀ o, x = some o → False) : x = none := match x, h with
  | none, _ => rfl
  | some o, h => (h o rfl).elim
theorem nos {α : Type _} {P : Prop} {x : Option α} {a : α} (h : x = none) (e : x = some a) : P := nomatch h.symm.trans e
theorem soms {α : Type _} {x : Option α} {a b : α} (h : x = some a) (e : x = some b) : a = b := Option.some.inj (h.symm.trans e)
theorem ne_of {α β : Type _} {f : α → Option β} {a b : α} {o : β} (h : f a = none) (e : f b = some o) : b ≠ a := fun q => nos h (q ▸ e)

inductive V where
  | none
  | bool (b : Bool)
  | int (i : Int)
  | str (x : Str)
  | list (l : List V)
  | tup (l : List V)
  | ws (n nt : Int) (cnt : List Int) (b : Int) (simple : Bool)
  | ref (a : Nat)

noncomputable abbrev PH := Addr → Option Obj
noncomputable def PH.le (g g' : PH) : Prop := ∀ b o, g b = some o → g' b = some o
theorem PH.le.refl (g : PH) : PH.le g g := fun _ _ e => e
theorem PH.le.trans {a b c : PH} (x : PH.le a b) (y : PH.le b c) : PH.le a c := fun i o e => y i o (x i o e)
noncomputable def PH.put (g : PH) (a : Addr) (o : Obj) : PH := fun b => if b = a then some o else g b
theorem PH.put_self (g : PH) (a : Addr) (o : Obj) : PH.put g a o a = some o := if_pos rfl
theorem PH.le_put {g : PH} {a : Addr} {o : Obj} (h : g a = none) : PH.le g (PH.put g a o) := fun _ _ e => (if_neg (ne_of h e)).trans e
theorem PH.put_cases {g : PH} {a b : Addr} {o o' : Obj} (h : PH.put g a o b = some o') : (b = a ∧ o' = o) ∨ g b = some o' := by
  by_cases hb : b = a
  · exact .inl ⟨hb, Option.some.inj (h.symm.trans (if_pos hb))⟩
  · exact .inr ((if_neg hb).symm.trans h)
theorem PH.put_ne {g : PH} {a b : Addr} {o : Obj} (h : b ≠ a) : PH.put g a o b = g b := if_neg h
noncomputable abbrev PH.Sub (g : PH) (h : Heap) : Prop := ∀ b o, g b = some o → h.get? b = some o
noncomputable abbrev ofHeap (h : Heap) : PH := fun b => h.get? b

noncomputable def lstObj (vs : List Value) (n : Nat) : Obj := { cls := .type "list", data := .seq vs.toArray n }
noncomputable def tupObj (vs : List Value) (n : Nat) : Obj := { cls := .type "tuple", data := .seq vs.toArray n }

noncomputable def intsV (l : List Int) : List V := l.map .int

structure WsOk (C : Addr) (g : PH) (n nt : Int) (cnt : List Int) (b : Int) (simple : Bool) (a c d : Addr) (mA : Str → Option Value) (cs : List Value) : Prop where
  inst : ∀ h : Heap, PH.Sub g h → h.Inst a C mA
  n : ∃ t, mA "n" = some (.int n t)
  nt : ∃ t, mA "nt" = some (.int nt t)
  simple : mA "is_simple" = some (.bool simple)
  norm : mA "norm" = some (.ref d)
  d : ∃ t e, g d = some (tupObj [.ref c, .int b t] e)
  c : ∃ e, g c = some (tupObj cs e)
  cs : IntsAre cs cnt
  m1 : mA "longest_run_of_spaces" = none
  m2 : mA "indent_level" = none
  m3 : mA "less" = none
  ho : ∃ o, g a = some o
theorem WsOk.mono {C : Addr} {g g' : PH} {n nt : Int} {cnt : List Int} {b : Int} {simple : Bool} {a c d : Addr} {mA : Str → Option Value} {cs : List Value} (hs : PH.le g g') (W : WsOk C g n nt cnt b simple a c d mA cs) : WsOk C g' n nt cnt b simple a c d mA cs :=
  ⟨fun h hh => W.inst h fun b o e => hh b o (hs b o e), W.n, W.nt, W.simple, W.norm, let ⟨t, e, h⟩ := W.d; ⟨t, e, hs _ _ h⟩, let ⟨e, h⟩ := W.c; ⟨e, hs _ _ h⟩, W.cs, W.m1, W.m2, W.m3, let ⟨o, h⟩ := W.ho; ⟨o, hs _ _ h⟩⟩
mutual
noncomputable def Rep (C : Addr) (g : PH) : Value → V → Prop
  | v, .none => v = .none
  | v, .bool b => v = .bool b
  | v, .int i => ∃ t, v = .int i t
  | v, .str x => ∃ t, v = .str x t
  | v, .ref a => v = .ref a
  | v, .list l => ∃ a vs n, v = .ref a ∧ g a = some (lstObj vs n) ∧ Reps C g vs l
  | v, .tup l => ∃ a vs n, v = .ref a ∧ g a = some (tupObj vs n) ∧ Reps C g vs l
  | v, .ws n nt cnt b simple => ∃ a, v = .ref a ∧ ∃ c d mA cs, WsOk C g n nt cnt b simple a c d mA cs
noncomputable def Reps (C : Addr) (g : PH) : List Value → List V → Prop
  | vs, [] => vs = []
  | vs, d :: ds => ∃ v vs', vs = v :: vs' ∧ Rep C g v d ∧ Reps C g vs' ds
end

section
variable {C : Addr} {g g' : PH}
theorem Rep.none : Rep C g .none .none := rfl
theorem Rep.bool (b : Bool) : Rep C g (.bool b) (.bool b) := rfl
theorem Rep.int (i : Int) (t : Tok) : Rep C g (.int i t) (.int i) := ⟨t, rfl⟩
theorem Rep.str (x : Str) (t : Tok) : Rep C g (.str x t) (.str x) := ⟨t, rfl⟩
theorem Rep.ref (a : Addr) : Rep C g (.ref a) (.ref a) := rfl
variable {v : Value} {d : V} {vs ws : List Value} {ds es : List V}
theorem Rep.list {a : Addr} {n : Nat} (h : g a = some (lstObj vs n)) (r : Reps C g vs ds) : Rep C g (.ref a) (.list ds) := ⟨a, vs, n, rfl, h, r⟩
theorem Rep.tup {a : Addr} {n : Nat} (h : g a = some (tupObj vs n)) (r : Reps C g vs ds) : Rep C g (.ref a) (.tup ds) := ⟨a, vs, n, rfl, h, r⟩
theorem Reps.nil : Reps C g [] [] := rfl
theorem Reps.cons (h : Rep C g v d) (r : Reps C g vs ds) : Reps C g (v :: vs) (d :: ds) := ⟨v, vs, rfl, h, r⟩
theorem Reps.un (h : Reps C g (v :: vs) (d :: ds)) : Rep C g v d ∧ Reps C g vs ds := by
  obtain ⟨_, _, e, h, r⟩ := h
  obtain ⟨rfl, rfl⟩ := List.cons.inj e
  exact ⟨h, r⟩
theorem Rep.mono (hs : PH.le g g') (h : Rep C g v d) : Rep C g' v d :=
  V.rec (motive_1 := fun d => ∀ v, Rep C g v d → Rep C g' v d) (motive_2 := fun ds => ∀ vs, Reps C g vs ds → Reps C g' vs ds) (fun _ h => h) (fun _ _ h => h) (fun _ _ h => h) (fun _ _ h => h)
    (fun _ ih _ h => h.elim fun a h => h.elim fun vs h => h.elim fun n h => ⟨a, vs, n, h.1, hs _ _ h.2.1, ih _ h.2.2⟩) (fun _ ih _ h => h.elim fun a h => h.elim fun vs h => h.elim fun n h => ⟨a, vs, n, h.1, hs _ _ h.2.1, ih _ h.2.2⟩)
    (fun _ _ _ _ _ _ h => let ⟨a, e, c, d, mA, cs, W⟩ := h; ⟨a, e, c, d, mA, cs, W.mono hs⟩)
    (fun _ _ h => h) (fun _ h => h) (fun _ _ ih ihs _ h => h.elim fun v h => h.elim fun vs h => ⟨v, vs, h.1, ih _ h.2.1, ihs _ h.2.2⟩) d v h
theorem Reps.mono (hs : PH.le g g') : ∀ {ds : List V} {vs : List Value}, Reps C g vs ds → Reps C g' vs ds
  | [], _, h => h
  | _ :: _, _, h => h.elim fun v h => h.elim fun vs h => ⟨v, vs, h.1, h.2.1.mono hs, Reps.mono hs h.2.2⟩
theorem Reps.length : ∀ {vs : List Value} {ds : List V}, Reps C g vs ds → vs.length = ds.length
  | _, [], h => congrArg List.length h
  | _, _ :: _, h => h.elim fun _ h => h.elim fun _ h => h.1 ▸ congrArg (· + 1) h.2.2.length
theorem Reps.append : ∀ {vs : List Value} {ds : List V}, Reps C g vs ds → Reps C g ws es → Reps C g (vs ++ ws) (ds ++ es)
  | _, [], h, k => by cases h; exact k
  | _, _ :: _, h, k => by
    obtain ⟨v, vs, rfl, h, r⟩ := h
    exact ⟨v, vs ++ ws, rfl, h, r.append k⟩
theorem Reps.one (h : Rep C g v d) : Reps C g [v] [d] := .cons h .nil
theorem Reps.get : ∀ {vs : List Value} {ds : List V}, Reps C g vs ds → ∀ {k : Nat} {d : V}, ds[k]? = some d → ∃ v, vs[k]? = some v ∧ Rep C g v d
  | _, [], _, _, _, hk => nomatch hk
  | _, _ :: _, h, k, _, hk => by
    obtain ⟨v, vs, rfl, h, r⟩ := h
    cases k with
    | zero => exact ⟨v, rfl, Option.some.inj hk ▸ h⟩
    | succ k => exact r.get (k := k) hk
theorem Reps.take : ∀ {vs : List Value} {ds : List V}, Reps C g vs ds → ∀ k : Nat, Reps C g (vs.take k) (ds.take k)
  | _, _, _, 0 => rfl
  | _, [], h, _ + 1 => by cases h; exact rfl
  | _, _ :: _, h, k + 1 => by
    obtain ⟨v, vs, rfl, h, r⟩ := h
    exact ⟨v, vs.take k, rfl, h, r.take k⟩
theorem Reps.set : ∀ {vs : List Value} {ds : List V}, Reps C g vs ds → ∀ (k : Nat) {v : Value} {d : V}, Rep C g v d → Reps C g (vs.set k v) (ds.set k d)
  | _, [], h, _, _, _, _ => by cases h; exact rfl
  | _, _ :: _, h, 0, v, _, hv => by
    obtain ⟨_, vs, rfl, _, r⟩ := h
    exact ⟨v, vs, rfl, hv, r⟩
  | _, _ :: _, h, k + 1, v, _, hv => by
    obtain ⟨u, vs, rfl, h, r⟩ := h
    exact ⟨u, vs.set k v, rfl, h, r.set k hv⟩
theorem Rep.int_inv {v : Value} {i : Int} (h : Rep C g v (.int i)) : ∃ t, v = .int i t := h
theorem Rep.bool_inv {v : Value} {i : Bool} (h : Rep C g v (.bool i)) : v = .bool i := h
theorem Rep.str_inv {v : Value} {i : Str} (h : Rep C g v (.str i)) : ∃ t, v = .str i t := h
theorem Rep.none_inv {v : Value} (h : Rep C g v .none) : v = .none := h
theorem Reps.ints : ∀ {ns : List Int} {vs : List Value}, Reps C g vs (intsV ns) → IntsAre vs ns
  | [], _, h => by cases h; exact .nil
  | _ :: _, _, h => by
    obtain ⟨_, _, rfl, ⟨t, rfl⟩, r⟩ := h
    exact .cons _ _ (Reps.ints r)
theorem Reps.of_ints {vs : List Value} {ns : List Int} (h : IntsAre vs ns) : Reps C g vs (intsV ns) :=
  IntsAre.rec (motive := fun vs ns _ => Reps C g vs (intsV ns)) rfl (fun i t _ _ _ ih => ⟨_, _, rfl, ⟨t, rfl⟩, ih⟩) h
end

structure Rest (s s' : Shared) : Prop where
  os : s'.os = s.os
  gens : ∀ (i : Nat) (x : GenState), s.gens[i]? = some x → s'.gens[i]? = some x
  bare : AllBare s.gens → AllBare s'.gens
theorem Rest.refl (s : Shared) : Rest s s := ⟨rfl, fun _ _ e => e, fun x => x⟩
theorem Rest.trans {a b c : Shared} (x : Rest a b) (y : Rest b c) : Rest a c := ⟨y.os.trans x.os, fun i z e => y.gens i z (x.gens i z e), fun z => y.bare (x.bare z)⟩
theorem Rest.of {s : Shared} {h : Heap} {tk : Nat} : Rest s { s with heap := h, toks := tk } := ⟨rfl, fun _ _ e => e, fun x => x⟩

structure Ext (L : Addr) (s : Shared) (g : PH) (s' : Shared) (g' : PH) : Prop where
  keep : ∀ b o, b ≠ L → s.heap.get? b = some o → s'.heap.get? b = some o
  ns : ∀ m, s.heap.Ns L m → s'.heap.Ns L m
  le : PH.le g g'
  frz : PH.Sub g' s'.heap
  new : ∀ b o, g' b = some o → g b = some o ∨ (b ≠ L ∧ s.heap.get? b = none)
  rest : Rest s s'
theorem Ext.trans {L : Addr} {s₁ s₂ s₃ : Shared} {g₁ g₂ g₃ : PH} (x : Ext L s₁ g₁ s₂ g₂) (y : Ext L s₂ g₂ s₃ g₃) : Ext L s₁ g₁ s₃ g₃ where
  keep b o h e := y.keep b o h (x.keep b o h e)
  ns m h := y.ns m (x.ns m h)
  le := x.le.trans y.le
  frz := y.frz
  new b o e := (y.new b o e).elim (x.new b o) fun h => .inr ⟨h.1, nn fun o' q => nos h.2 (x.keep b o' h.1 q)⟩
  rest := x.rest.trans y.rest
theorem Ext.of {L : Addr} {s : Shared} {g : PH} {h : Heap} {tk : Nat} (hf : PH.Sub g s.heap) (hk : ∀ b o, s.heap.get? b = some o → h.get? b = some o) : Ext L s g { s with heap := h, toks := tk } g :=
  ⟨fun b o _ => hk b o, fun _ n => n.keeps hk, .refl g, fun b o e => hk b o (hf b o e), fun _ _ e => .inl e, .of⟩
theorem Ext.tok {L : Addr} {s : Shared} {g : PH} {tk : Nat} (hf : PH.Sub g s.heap) : Ext L s g { s with toks := tk } g := Ext.of (h := s.heap) hf fun _ _ e => e
theorem Ext.refl {L : Addr} {s : Shared} {g : PH} (hf : PH.Sub g s.heap) : Ext L s g s g := ⟨fun _ _ _ e => e, fun _ n => n, .refl g, hf, fun _ _ e => .inl e, .refl s⟩
theorem Ext.add {L : Addr} {s : Shared} {g : PH} {h : Heap} {tk : Nat} {a : Addr} {o : Obj} (hf : PH.Sub g s.heap) (hgL : g L = none) (hk : ∀ b o, b ≠ L → s.heap.get? b = some o → h.get? b = some o) (hn : ∀ m, s.heap.Ns L m → h.Ns L m)
    (haL : a ≠ L) (ha : s.heap.get? a = none) (ho : h.get? a = some o) : Ext L s g { s with heap := h, toks := tk } (g.put a o) where
  keep := hk
  ns := hn
  le := PH.le_put (nn fun _ q => nos ha (hf a _ q))
  frz b o' e := (PH.put_cases e).elim (fun z => z.1 ▸ z.2 ▸ ho) fun e => hk b o' (ne_of hgL e) (hf b o' e)
  new b o' e := (PH.put_cases e).elim (fun z => .inr (z.1 ▸ ⟨haL, ha⟩)) .inl
  rest := .of
theorem fresh_size (h : Heap) : h.get? h.objs.size = none := nn fun _ e => absurd (Heap.lt_size e) (Nat.lt_irrefl _)
theorem Ext.push {L : Addr} {s : Shared} {g : PH} {tk : Nat} {o : Obj} (hf : PH.Sub g s.heap) (hgL : g L = none) (hl : L < s.heap.objs.size) (ho : o.isFreed = false) :
    Ext L s g { s with heap := s.heap.push o, toks := tk } (g.put s.heap.objs.size o) :=
  Ext.add hf hgL (fun b o' _ e => Heap.get?_push_of_some _ e) (fun _ n => n.keeps fun b o' e => Heap.get?_push_of_some _ e) (Nat.ne_of_gt hl) (fresh_size _) (Heap.get?_push_size _ ho)

noncomputable def allBut (h : Heap) (L : Addr) : List (Addr × Obj) := (List.range h.objs.size).filterMap fun b => if b = L then none else (h.get? b).map fun o => (b, o)
theorem mem_allBut {h : Heap} {L b : Addr} {o : Obj} : (b, o) ∈ allBut h L ↔ b ≠ L ∧ h.get? b = some o := by
  refine List.mem_filterMap.trans ⟨fun h => ?_, fun h => ⟨b, List.mem_range.mpr (Heap.lt_size h.2), (if_neg h.1).trans (by rw [h.2]; rfl)⟩⟩
  obtain ⟨a, _, e⟩ := h
  by_cases q : a = L
  · exact nos (if_pos q) e
  · obtain ⟨o', h1, h2⟩ := Option.map_eq_some_iff.mp ((if_neg q).symm.trans e)
    cases h2; exact ⟨q, h1⟩
noncomputable def noHeap : Heap := {}
theorem noHeap_get (b : Addr) : noHeap.get? b = none := by simp [noHeap, Heap.get?]
theorem fr_all {h : Heap} {L : Addr} {m : Str → Option Value} (hn : h.Ns L m) : Fr noHeap L h m := ⟨hn, fun b _ e => nos (noHeap_get b) e, Nat.zero_le _⟩
theorem news_all (h : Heap) (L : Addr) : News noHeap L h (allBut h L) := fun p hp => have q := mem_allBut.mp (show (p.1, p.2) ∈ allBut h L from hp); ⟨q.2, q.1, noHeap_get _⟩
theorem ns_det {h : Heap} {L : Addr} {m m' : Str → Option Value} (a : h.Ns L m) (b : h.Ns L m') : m = m' :=
  let ⟨_, _, _, ho, hd, _, hm⟩ := a
  let ⟨_, _, _, ho', hd', _, hm'⟩ := b
  have e := Data.dict.inj (hd.symm.trans ((congrArg Obj.data (soms ho ho')).trans hd'))
  funext fun x => (hm x).symm.trans ((congrArg (nsFind · x) e.1).trans (hm' x))
theorem kept_all {h h' : Heap} {L : Addr} {news : List (Addr × Obj)} (N : News noHeap L h' news) (hs : ∀ p ∈ allBut h L, p ∈ news) : ∀ b o, b ≠ L → h.get? b = some o → h'.get? b = some o :=
  fun b o hb e => (N (b, o) (hs _ (mem_allBut.mpr ⟨hb, e⟩))).1
theorem ns_all {h h' : Heap} {L : Addr} {m : Str → Option Value} (hn : h.Ns L m) (F : Fr noHeap L h' m) : ∀ m', h.Ns L m' → h'.Ns L m' := fun _ h' => ns_det hn h' ▸ F.ns
theorem fresh_all {h : Heap} {L D : Addr} (hD : D ≠ L) (hlt : ∀ p ∈ allBut h L, p.1 < D) : h.get? D = none := nn fun o e => absurd (hlt (D, o) (mem_allBut.mpr ⟨hD, e⟩)) (Nat.lt_irrefl _)

inductive Slot where
  | undef
  | fro (v : V)
  | own (l : List V)

structure Loads (env : Env) (h : Heap) (x : Str) (v : Value) : Prop where
  loc : env.kindOf x = some .local → ∃ m, h.Ns env.locals m ∧ m x = some v
  cell : env.kindOf x = some .cell ∨ env.kindOf x = some .free → ∃ c, env.cells.lookup x = some c ∧ c ≠ env.locals ∧ h.IsCell c (some v)
theorem Loads.keep {env : Env} {h h' : Heap} {x : Str} {v : Value} (l : Loads env h x v) (kn : ∀ m, h.Ns env.locals m → h'.Ns env.locals m) (kc : ∀ c o w, env.cells.lookup x = some c → c ≠ env.locals → h.get? c = some o → o.data = .cell w → h'.get? c = some o) : Loads env h' x v :=
  ⟨fun k => let ⟨m, h1, h2⟩ := l.loc k; ⟨m, kn m h1, h2⟩, fun k => let ⟨c, h1, h2, o, h3, h4⟩ := l.cell k; ⟨c, h1, h2, o, kc c o _ h1 h2 h3 h4, h4⟩⟩

structure Cx where
  C : Addr
  env : Env
  vars : List Str
  P : List Addr

noncomputable def SlotOk (cx : Cx) (K g : PH) (h : Heap) (x : Str) (v : Value) : Slot → Prop
  | .undef => True
  | .fro d => Loads cx.env h x v ∧ Rep cx.C g v d
  | .own l => Loads cx.env h x v ∧ ∃ a vs, v = .ref a ∧ (∃ n, h.get? a = some (lstObj vs n)) ∧ Reps cx.C g vs l ∧ g a = none ∧ K a = none ∧ a ∉ cx.P

structure Inv (cx : Cx) (K g₀ : PH) (s₀ : Shared) (val : Nat → Value) (ρ : List Slot) (g : PH) (s : Shared) : Prop where
  frz : PH.Sub g s.heap
  keep : PH.Sub K s.heap
  le₀ : PH.le g₀ g
  new : ∀ b o, g b = some o → g₀ b = some o ∨ K b = none
  rest : Rest s₀ s
  slot : ∀ i x, cx.vars[i]? = some x → SlotOk cx K g s.heap x (val i) (ρ.getD i .undef)
  inj : ∀ i j l l', ρ.getD i .undef = .own l → ρ.getD j .undef = .own l' → val i = val j → i = j
  priv : ∀ b ∈ cx.P, g b = none ∧ K b = none ∧ ∃ o, s.heap.get? b = some o
  ns : ∃ m, s.heap.Ns cx.env.locals m
  lp : cx.env.locals ∈ cx.P
  len : ρ.length = cx.vars.length
  cells : ∀ c ∈ cx.P, c ≠ cx.env.locals → ∃ v, s.heap.IsCell c v

theorem Ext.ns' {L : Addr} {s s' : Shared} {g g' : PH} (e : Ext L s g s' g') {m : Str → Option Value} (h : s.heap.Ns L m) : s'.heap.Ns L m := e.ns m h
theorem Loads.ext {env : Env} {s s' : Shared} {g g' : PH} {x : Str} {v : Value} (l : Loads env s.heap x v) (e : Ext env.locals s g s' g') : Loads env s'.heap x v :=
  l.keep e.ns fun c o _ _ h1 h2 _ => e.keep c o h1 h2
theorem Ext.none {L a : Addr} {s s' : Shared} {g g' : PH} {o : Obj} (e : Ext L s g s' g') (h : g a = none) (ho : s.heap.get? a = some o) : g' a = none := nn fun o' q => (e.new a o' q).elim (nos h) fun z => nos z.2 ho
theorem SlotOk.ext {cx : Cx} {K g g' : PH} {s s' : Shared} {x : Str} {v : Value} {sl : Slot} (S : SlotOk cx K g s.heap x v sl) (e : Ext cx.env.locals s g s' g') (hL : cx.env.locals ∈ cx.P) : SlotOk cx K g' s'.heap x v sl :=
  match sl, S with
  | .undef, _ => trivial
  | .fro _, S => ⟨S.1.ext e, S.2.mono e.le⟩
  | .own _, ⟨h1, a, vs, hv, ⟨n, h2⟩, h3, h4, h5, h6⟩ => ⟨h1.ext e, a, vs, hv, ⟨n, e.keep _ _ (fun q => h6 (q ▸ hL)) h2⟩, h3.mono e.le, e.none h4 h2, h5, h6⟩
theorem Inv.gL {cx : Cx} {K g₀ g : PH} {s₀ s : Shared} {val : Nat → Value} {ρ : List Slot} (I : Inv cx K g₀ s₀ val ρ g s) : g cx.env.locals = none := (I.priv _ I.lp).1
theorem Inv.KL {cx : Cx} {K g₀ g : PH} {s₀ s : Shared} {val : Nat → Value} {ρ : List Slot} (I : Inv cx K g₀ s₀ val ρ g s) : K cx.env.locals = none := (I.priv _ I.lp).2.1
theorem Inv.ext {cx : Cx} {K g₀ g g' : PH} {s₀ s s' : Shared} {val : Nat → Value} {ρ : List Slot} (I : Inv cx K g₀ s₀ val ρ g s) (e : Ext cx.env.locals s g s' g') : Inv cx K g₀ s₀ val ρ g' s' where
  frz := e.frz
  keep b o h := e.keep b o (ne_of I.KL h) (I.keep b o h)
  le₀ := I.le₀.trans e.le
  new b o h := (e.new b o h).elim (I.new b o) fun z => .inr (nn fun o' q => nos z.2 (I.keep b o' q))
  rest := I.rest.trans e.rest
  slot i x hx := (I.slot i x hx).ext e I.lp
  inj := I.inj
  priv b hb := by
    obtain ⟨h1, h2, o, h3⟩ := I.priv b hb
    refine ⟨e.none h1 h3, h2, ?_⟩
    by_cases hb : b = cx.env.locals
    · obtain ⟨m, hm⟩ := I.ns
      obtain ⟨o', _, _, ho', _⟩ := e.ns m hm
      exact ⟨o', hb ▸ ho'⟩
    · exact ⟨o, e.keep _ _ hb h3⟩
  ns := let ⟨m, hm⟩ := I.ns; ⟨m, e.ns m hm⟩
  lp := I.lp
  len := I.len
  cells c hc hne := let ⟨v, o, h1, h2⟩ := I.cells c hc hne; ⟨v, o, e.keep c o hne h1, h2⟩
theorem Inv.ltL {cx : Cx} {K g₀ g : PH} {s₀ s : Shared} {val : Nat → Value} {ρ : List Slot} (I : Inv cx K g₀ s₀ val ρ g s) : cx.env.locals < s.heap.objs.size := let ⟨_, hm⟩ := I.ns; hm.lt
end Mine

-- part 2
namespace Mine

noncomputable def pickL {α : Type} (l : List α) (lo hi st : Option Int) : List α :=
  (sliceRange (sliceBounds lo hi st l.length).1 (sliceBounds lo hi st l.length).2.1 (sliceBounds lo hi st l.length).2.2).filterMap (l[·]?)

set_option genSizeOf false in
set_option genInjectivity false in
inductive CE where
  | none
  | bool (b : Bool)
  | int (i : Int)
  | str (x : Str)
  | var (i : Nat)
  | bin (op : Operator) (a b : CE)
  | neg (a : CE)
  | cmp (op : CmpOp) (a b : CE)
  | mem (no : Bool) (a : CE) (x : Nat)
  | ne0 (x : Nat)
  | bop (op : BoolOp) (a b : CE)
  | ite (t a b : CE)
  | lst (l : List CE)
  | tup (l : List CE)
  | sub (a i : CE)
  | subv (x : Nat) (i : CE)
  | slc (a : CE) (lo hi st : Option CE)
  | slcv (x : Nat) (lo hi st : Option CE)
  | len (a : CE)
  | lenv (x : Nat)
  | call (f : Nat) (args : List CE)
  | callv (f : Nat) (x : Nat) (b : CE)
  | max (a b : CE)
  | sum (a : CE)
  | tuple (a : CE)
  | sorted (a : CE)
  | join (a b : CE)
  | split (a b : CE)
  | pop (x : Nat)
  | attr (a : CE) (f : Nat)
  | mcall (a : CE) (m : Nat) (args : List CE)
  | comp (elt : CE) (two : Bool) (it : CE) (cond : Option CE)
  | range (a b c : CE)
  | zip (a b : CE)

noncomputable def ltL : List Int → List Int → Bool
  | _, [] => false
  | [], _ :: _ => true
  | a :: x, b :: y => if a = b then ltL x y else decide (a < b)
noncomputable def runT {α : Type} (n : Nat) (cmp : Nat → Nat → Bool) : PySem.W.KasT α → Option α
  | .ret a => some a
  | .ask i j k => if i < n ∧ j < n then runT n cmp (k (cmp i j)) else none
noncomputable def pureSort (ls : List (List Int)) : Option (List (List Int)) :=
  (runT ls.length (fun i j => ltL (ls.getD i []) (ls.getD j [])) (PySem.W.kas_sort ls.length)).bind fun p => if p.toList.all (fun i => decide (i < ls.length)) then some (p.toList.map fun i => ls.getD i []) else none

section
variable {α : Type} {v : V} {r : α}
noncomputable def onInt (v : V) (k : Int → Option α) : Option α := match v with
  | .int i => k i
  | _ => none
noncomputable def onStr (v : V) (k : Str → Option α) : Option α := match v with
  | .str i => k i
  | _ => none
noncomputable def onList (v : V) (k : List V → Option α) : Option α := match v with
  | .list i => k i
  | _ => none
noncomputable def onBool (v : V) (k : Bool → Option α) : Option α := match v with
  | .bool i => k i
  | _ => none
theorem onInt_inv {k : Int → Option α} (h : onInt v k = some r) : ∃ i, v = .int i ∧ k i = some r := by
  cases v <;> first | exact ⟨_, rfl, h⟩ | exact nomatch h
theorem onStr_inv {k : Str → Option α} (h : onStr v k = some r) : ∃ i, v = .str i ∧ k i = some r := by
  cases v <;> first | exact ⟨_, rfl, h⟩ | exact nomatch h
theorem onList_inv {k : List V → Option α} (h : onList v k = some r) : ∃ i, v = .list i ∧ k i = some r := by
  cases v <;> first | exact ⟨_, rfl, h⟩ | exact nomatch h
theorem onBool_inv {k : Bool → Option α} (h : onBool v k = some r) : ∃ i, v = .bool i ∧ k i = some r := by
  cases v <;> first | exact ⟨_, rfl, h⟩ | exact nomatch h
theorem ite_some {c : Prop} [Decidable c] {a b : α} (h : (if c then some a else none) = some b) : c ∧ a = b := by
  by_cases hc : c
  · exact ⟨hc, Option.some.inj ((if_pos hc).symm.trans h)⟩
  · exact nos (if_neg hc) h
end

noncomputable def addV (a b : V) : Option V := match a with
  | .int x => onInt b fun y => some (.int (x + y))
  | .str x => onStr b fun y => if x.length + y.length ≤ 1048576 then some (.str (x ++ y)) else none
  | .list x => onList b fun y => if x.length + y.length ≤ 1048576 then some (.list (x ++ y)) else none
  | _ => none
noncomputable def mulV (a b : V) : Option V := match a with
  | .int x => onInt b fun y => if x.natAbs < 2 ^ 62 then some (.int (x * y)) else none
  | .str x => onInt b fun n => if 0 ≤ n ∧ n ≤ 16 ∧ x.length ≤ 16 then some (.str (Txt.mul x n)) else none
  | .list x => onInt b fun n => if x.length ≤ 16 ∧ n ≤ 65536 ∧ -65536 ≤ n then some (.list (List.replicate n.toNat x).flatten) else none
  | _ => none
noncomputable def binV (op : Operator) (a b : V) : Option V := match op with
  | .Add => addV a b
  | .Mult => mulV a b
  | .Sub => onInt a fun a => onInt b fun b => some (.int (a - b))
  | .FloorDiv => onInt a fun a => onInt b fun b => if b ≠ 0 ∧ b.natAbs < 1073741824 then some (.int (a.fdiv b)) else none
  | .Mod => onInt a fun a => onInt b fun b => if b ≠ 0 then some (.int (a.fmod b)) else none
  | .Pow => onInt a fun a => onInt b fun b => if 0 ≤ b ∧ b ≤ 1000000 ∧ a.natAbs < 2 ^ 64 then some (.int (a ^ b.toNat)) else none
  | _ => none

noncomputable def V.plain : Nat → V → Bool
  | _, .int _ => true
  | n + 1, .list l => l.all (V.plain n)
  | n + 1, .tup l => l.all (V.plain n)
  | _, _ => false

noncomputable def pInt (v : V) (k : Int → Prop) : Prop := match v with
  | .int i => k i
  | _ => False
noncomputable def pStr (v : V) (k : Str → Prop) : Prop := match v with
  | .str i => k i
  | _ => False
noncomputable def pBool (v : V) (k : Bool → Prop) : Prop := match v with
  | .bool i => k i
  | _ => False
noncomputable def pList (v : V) (k : List V → Prop) : Prop := match v with
  | .list i => k i
  | _ => False
noncomputable def pNone (v : V) (k : Prop) : Prop := match v with
  | .none => k
  | _ => False
section
variable {v : V}
theorem pInt_inv {k : Int → Prop} (h : pInt v k) : ∃ i, v = .int i ∧ k i := by
  cases v <;> first | exact ⟨_, rfl, h⟩ | exact h.elim
theorem pStr_inv {k : Str → Prop} (h : pStr v k) : ∃ i, v = .str i ∧ k i := by
  cases v <;> first | exact ⟨_, rfl, h⟩ | exact h.elim
theorem pBool_inv {k : Bool → Prop} (h : pBool v k) : ∃ i, v = .bool i ∧ k i := by
  cases v <;> first | exact ⟨_, rfl, h⟩ | exact h.elim
theorem pList_inv {k : List V → Prop} (h : pList v k) : ∃ i, v = .list i ∧ k i := by
  cases v <;> first | exact ⟨_, rfl, h⟩ | exact h.elim
theorem pNone_inv {k : Prop} (h : pNone v k) : v = .none ∧ k := by
  cases v <;> first | exact ⟨rfl, h⟩ | exact h.elim
end
noncomputable def cmpV (op : CmpOp) (a b : V) (r : Bool) : Prop := match op with
  | .Eq => match a with
    | .int a => pInt b fun b => r = (a == b)
    | .str a => pStr b fun b => r = (a == b)
    | .bool a => pBool b fun b => r = (a == b)
    | .list a => pList b fun b => V.plain 4 (.list a) = true ∧ V.plain 4 (.list b) = true ∧ (r = true ↔ a = b)
    | _ => False
  | .NotEq => match a with
    | .int a => pInt b fun b => r = (a != b)
    | .list a => pList b fun b => V.plain 4 (.list a) = true ∧ V.plain 4 (.list b) = true ∧ (r = true ↔ a ≠ b)
    | _ => False
  | .Lt => pInt a fun a => pInt b fun b => r = decide (a < b)
  | .LtE => pInt a fun a => pInt b fun b => r = decide (a ≤ b)
  | .Gt => pInt a fun a => pInt b fun b => r = decide (b < a)
  | .GtE => pInt a fun a => pInt b fun b => r = decide (b ≤ a)
  | .Is => match a with
    | .bool a => pBool b fun b => r = (a == b)
    | .none => pNone b (r = true)
    | .int _ => pNone b (r = false)
    | _ => False
  | .IsNot => pBool a fun a => pBool b fun b => r = (a != b)
  | .NotIn => pStr a fun y => pStr b fun x => r = (Builtin.Str.occurrences x y 0 x.length 1).isEmpty
  | _ => False

noncomputable def idxV (a i : V) : Option V := match a with
  | .list l => onInt i fun i => if l.length ≤ 1048576 then (seqIndex? i l.length).bind (l[·]?) else none
  | .tup l => onInt i fun i => if l.length ≤ 1048576 then (seqIndex? i l.length).bind (l[·]?) else none
  | _ => none
noncomputable def partV : V → Option (Option Int)
  | .none => some none
  | .int i => some (some i)
  | _ => none
noncomputable def sliceV (a : V) (lo hi st : Option Int) : Option V := match a with
  | .list l => if st ≠ some 0 ∧ l.length ≤ 1048576 then some (.list (pickL l lo hi st)) else none
  | .str x => match st with
    | none => if x.length ≤ 1048576 then some (.str (Txt.slice x lo hi)) else none
    | some _ => none
  | _ => none
noncomputable def lenV : V → Option Int
  | .list l => if l.length ≤ 1048576 then some l.length else none
  | .tup l => if l.length ≤ 1048576 then some l.length else none
  | .str x => if x.length ≤ 1048576 then some x.length else none
  | _ => none
noncomputable def iterV (v : V) : Option (List V) := onList v fun l => if l.length ≤ 1048576 then some l else none
noncomputable def numsV : List V → Option (List Int)
  | [] => some []
  | v :: r => onInt v fun i => (numsV r).map (i :: ·)
noncomputable def strsV : List V → Option (List Str)
  | [] => some []
  | v :: r => onStr v fun i => (strsV r).map (i :: ·)
noncomputable def slotV : Slot → Option V
  | .undef => none
  | .fro v => some v
  | .own l => some (.list l)
noncomputable def frozen : List Slot → List Slot := List.map fun
  | .fro v => .fro v
  | _ => .undef
noncomputable def rangeV (a b c : Int) : List V := (sliceRangeI a b c).map .int
where sliceRangeI (a b c : Int) : List Int := (List.range (Builtin.Range.rangeSize a b c).toNat).map fun (k : Nat) => a + (k : Int) * c
noncomputable def attrV : V → Nat → Option V
  | .ws n _ _ _ _, 0 => some (.int n)
  | .ws _ nt _ _ _, 1 => some (.int nt)
  | .ws _ _ c b _, 2 => some (.tup [.tup (intsV c), .int b])
  | .ws _ _ _ _ s, 3 => some (.bool s)
  | _, _ => none

section
variable (Sp : Nat → List V → V → Prop)
noncomputable def compL (f : V → (List V → Prop) → Prop) : List V → List V → (List V → Prop) → Prop
  | [], acc, Q => Q acc
  | x :: xs, acc, Q => f x fun ys => compL f xs (acc ++ ys) Q
noncomputable def bindN (two : Bool) (x : V) (Q : List Slot → Prop) : Prop := match two with
  | false => Q [.fro x]
  | true => ∃ a b, x = .tup [a, b] ∧ Q [.fro a, .fro b]

mutual
noncomputable def wpE : CE → List Slot → (V → List Slot → Prop) → Prop
  | .none, ρ, Q => Q .none ρ
  | .bool b, ρ, Q => Q (.bool b) ρ
  | .int i, ρ, Q => Q (.int i) ρ
  | .str x, ρ, Q => Q (.str x) ρ
  | .var i, ρ, Q => match ρ.getD i .undef with
    | .undef => False
    | .fro v => Q v ρ
    | .own l => Q (.list l) (ρ.set i (.fro (.list l)))
  | .bin op a b, ρ, Q => wpE a ρ fun va ρ₁ => wpE b ρ₁ fun vb ρ₂ => ∃ r, binV op va vb = some r ∧ Q r ρ₂
  | .neg a, ρ, Q => wpE a ρ fun va ρ₁ => ∃ i, va = .int i ∧ Q (.int (-i)) ρ₁
  | .cmp op a b, ρ, Q => wpE a ρ fun va ρ₁ => wpE b ρ₁ fun vb ρ₂ => (∃ r, cmpV op va vb r) ∧ ∀ r, cmpV op va vb r → Q (.bool r) ρ₂
  | .mem no a x, ρ, Q => wpE a ρ fun va ρ₁ => ∃ l, slotV (ρ₁.getD x .undef) = some (.list l) ∧ V.plain 4 va = true ∧ V.plain 4 (.list l) = true ∧ l.length ≤ 1048576 ∧ ∀ r : Bool, (r = true ↔ va ∈ l) → Q (.bool (r != no)) ρ₁
  | .ne0 x, ρ, Q => ∃ l, slotV (ρ.getD x .undef) = some (.list l) ∧ V.plain 4 (.list l) = true ∧ Q (.bool (!l.isEmpty)) ρ
  | .bop op a b, ρ, Q => wpE a ρ fun va ρ₁ => ∃ x, va = .bool x ∧ ((x = (op == .Or)) → Q (.bool x) ρ₁) ∧ ((x ≠ (op == .Or)) → wpE b ρ₁ fun vb ρ₂ => ∃ y, vb = .bool y ∧ Q (.bool y) ρ₂)
  | .ite t a b, ρ, Q => wpE t ρ fun vt ρ₁ => ∃ x, vt = .bool x ∧ (x = true → wpE a ρ₁ Q) ∧ (x = false → wpE b ρ₁ Q)
  | .lst l, ρ, Q => wpEs l ρ fun vs ρ₁ => Q (.list vs) ρ₁
  | .tup l, ρ, Q => wpEs l ρ fun vs ρ₁ => Q (.tup vs) ρ₁
  | .sub a i, ρ, Q => wpE a ρ fun va ρ₁ => wpE i ρ₁ fun vi ρ₂ => ∃ r, idxV va vi = some r ∧ Q r ρ₂
  | .subv x i, ρ, Q => slotV (ρ.getD x .undef) ≠ none ∧ wpE i ρ fun vi ρ₁ => ∃ a r, slotV (ρ₁.getD x .undef) = some a ∧ idxV a vi = some r ∧ Q r ρ₁
  | .slc a lo hi st, ρ, Q => wpE a ρ fun va ρ₁ => wpO lo ρ₁ fun vl ρ₂ => wpO hi ρ₂ fun vh ρ₃ => wpO st ρ₃ fun vs ρ₄ => ∃ l h s r, partV vl = some l ∧ partV vh = some h ∧ partV vs = some s ∧ sliceV va l h s = some r ∧ Q r ρ₄
  | .slcv x lo hi st, ρ, Q => slotV (ρ.getD x .undef) ≠ none ∧ wpO lo ρ fun vl ρ₂ => wpO hi ρ₂ fun vh ρ₃ => wpO st ρ₃ fun vs ρ₄ => ∃ a l h s r, slotV (ρ₄.getD x .undef) = some a ∧ partV vl = some l ∧ partV vh = some h ∧ partV vs = some s ∧ sliceV a l h s = some r ∧ Q r ρ₄
  | .len a, ρ, Q => wpE a ρ fun va ρ₁ => ∃ n, lenV va = some n ∧ Q (.int n) ρ₁
  | .lenv x, ρ, Q => ∃ a n, slotV (ρ.getD x .undef) = some a ∧ lenV a = some n ∧ Q (.int n) ρ
  | .call f args, ρ, Q => wpEs args ρ fun vs ρ₁ => ∃ r, Sp f vs r ∧ Q r ρ₁
  | .callv f x b, ρ, Q => slotV (ρ.getD x .undef) ≠ none ∧ wpE b ρ fun vb ρ₁ => ∃ a i, slotV (ρ₁.getD x .undef) = some a ∧ Sp f [a, vb] (.int i) ∧ Q (.int i) ρ₁
  | .max a b, ρ, Q => wpE a ρ fun va ρ₁ => wpE b ρ₁ fun vb ρ₂ => ∃ x y, va = .int x ∧ vb = .int y ∧ Q (.int (if x < y then y else x)) ρ₂
  | .sum a, ρ, Q => wpE a ρ fun va ρ₁ => ∃ l ns, va = .list l ∧ numsV l = some ns ∧ l.length ≤ 1048576 ∧ Q (.int ns.sum) ρ₁
  | .tuple a, ρ, Q => wpE a ρ fun va ρ₁ => ∃ l, va = .list l ∧ l.length ≤ 1048576 ∧ Q (.tup l) ρ₁
  | .sorted a, ρ, Q => wpE a ρ fun va ρ₁ => ∃ ls : List (List Int), va = .list (ls.map fun x => .list (intsV x)) ∧ 0 < ls.length ∧ ls.length < 64 ∧ (∀ x ∈ ls, x.length = 4) ∧ ∃ rs, pureSort ls = some rs ∧ Q (.list (rs.map fun x => .list (intsV x))) ρ₁
  | .join a b, ρ, Q => wpE a ρ fun va ρ₁ => ∃ x, va = .str x ∧ wpE b ρ₁ fun vb ρ₂ => ∃ l ss, vb = .list l ∧ strsV l = some ss ∧ (ss.map (·.length)).sum + ss.length * x.length ≤ 1048576 ∧ Q (.str (Txt.join x ss)) ρ₂
  | .split a b, ρ, Q => wpE a ρ fun va ρ₁ => ∃ x, va = .str x ∧ wpE b ρ₁ fun vb ρ₂ => ∃ y, vb = .str y ∧ y.length = 1 ∧ x.length ≤ 1048576 ∧ Q (.list ((Txt.split x y).map .str)) ρ₂
  | .pop x, ρ, Q => match ρ.getD x .undef with
    | .own l => ∃ v, l.getLast? = some v ∧ l.length ≤ 1048576 ∧ Q v (ρ.set x (.own l.dropLast))
    | _ => False
  | .attr a f, ρ, Q => wpE a ρ fun va ρ₁ => ∃ r, attrV va f = some r ∧ Q r ρ₁
  | .mcall a m args, ρ, Q => wpE a ρ fun va ρ₁ => (∃ n nt c b s, va = .ws n nt c b s) ∧ wpEs args ρ₁ fun vs ρ₂ => ∃ r, Sp m (va :: vs) r ∧ Q r ρ₂
  | .comp elt two it cond, ρ, Q => wpE it ρ fun vi ρ₁ => ∃ items, iterV vi = some items ∧ compL (fun (x : V) (R : List V → Prop) =>
      bindN two x fun bs => wpC cond (bs ++ frozen ρ₁) fun b => (b = true → wpE elt (bs ++ frozen ρ₁) fun y _ => R [y]) ∧ (b = false → R [])) items [] fun r => Q (.list r) ρ₁
  | .range a b c, ρ, Q => wpE a ρ fun va ρ₁ => wpE b ρ₁ fun vb ρ₂ => wpE c ρ₂ fun vc ρ₃ => ∃ x y z, va = .int x ∧ vb = .int y ∧ vc = .int z ∧ (0 < z ∧ z < 1073741824 ∧ x.natAbs < 1073741824 ∧ y.natAbs < 1073741824) ∧ Q (.list (rangeV x y z)) ρ₃
  | .zip a b, ρ, Q => wpE a ρ fun va ρ₁ => wpE b ρ₁ fun vb ρ₂ => ∃ x y, va = .list x ∧ vb = .list y ∧ Q (.list ((x.zip y).map fun p => .tup [p.1, p.2])) ρ₂
noncomputable def wpEs : List CE → List Slot → (List V → List Slot → Prop) → Prop
  | [], ρ, Q => Q [] ρ
  | e :: r, ρ, Q => wpE e ρ fun v ρ₁ => wpEs r ρ₁ fun vs ρ₂ => Q (v :: vs) ρ₂
noncomputable def wpO : Option CE → List Slot → (V → List Slot → Prop) → Prop
  | none, ρ, Q => Q .none ρ
  | some e, ρ, Q => wpE e ρ Q
noncomputable def wpC : Option CE → List Slot → (Bool → Prop) → Prop
  | none, _, Q => Q true
  | some e, ρ, Q => wpE e ρ fun v _ => ∃ b, v = .bool b ∧ Q b
end
end

set_option genSizeOf false in
set_option genInjectivity false in
inductive CS where
  | assign (x : Nat) (e : CE)
  | ownList (x : Nat) (es : List CE)
  | ownCat (x y : Nat) (e : CE)
  | chain (xs : List Nat) (e : CE)
  | unpack (x y : Nat) (e : CE)
  | append (x : Nat) (e : CE)
  | setItem (x : Nat) (i e : CE)
  | aug (x : Nat) (op : Operator) (e : CE)
  | ext (x : Nat) (e : CE)
  | ite (t : CE) (a b : List CS)
  | whil (t : CE) (b : List CS)
  | for1 (x : Nat) (it : CE) (b : List CS)
  | for2 (x y : Nat) (it : CE) (b : List CS)
  | forEsc (x y : Nat) (e : CE) (b : List CS)
  | brk
  | ret (e : CE)

inductive Out where
  | next (ρ : List Slot)
  | brk (ρ : List Slot)
  | ret (v : V)
noncomputable def loopOut (k : List Slot → Prop) (Q : Out → Prop) : Out → Prop
  | .next ρ => k ρ
  | .brk ρ => Q (.next ρ)
  | .ret v => Q (.ret v)
noncomputable def whileN (f : List Slot → (Bool → List Slot → Prop) → Prop) (g : List Slot → (Out → Prop) → Prop) : Nat → List Slot → (Out → Prop) → Prop
  | 0, _, _ => False
  | n + 1, ρ, Q => f ρ fun b ρ₁ => (b = false → Q (.next ρ₁)) ∧ (b = true → g ρ₁ (loopOut (fun ρ₂ => whileN f g n ρ₂ Q) Q))
noncomputable def forL (bind : V → List Slot → (List Slot → Prop) → Prop) (g : List Slot → (Out → Prop) → Prop) : List V → List Slot → (Out → Prop) → Prop
  | [], ρ, Q => Q (.next ρ)
  | x :: xs, ρ, Q => bind x ρ fun ρ₁ => g ρ₁ (loopOut (fun ρ₂ => forL bind g xs ρ₂ Q) Q)
noncomputable def bind1 (x : Nat) (v : V) (ρ : List Slot) (k : List Slot → Prop) : Prop := k (ρ.set x (.fro v))
noncomputable def bindP (x y : Nat) (v : V) (ρ : List Slot) (k : List Slot → Prop) : Prop := match v with
  | .tup [a, b] => k ((ρ.set x (.fro a)).set y (.fro b))
  | _ => False
noncomputable def escItems : List Nat → Nat → Bool → List (Nat × List Nat)
  | [], p, true => [(p - 1, [92])]
  | [], _, false => []
  | c :: r, p, true => (p, [92, c]) :: escItems r (p + 1) false
  | c :: r, p, false => if c = 92 then escItems r (p + 1) true else (p, [c]) :: escItems r (p + 1) false
noncomputable def escV (x : Str) : List V := (escItems x.cps.toList 0 false).map fun p => .tup [.int p.1, .str ⟨p.2.toArray⟩]

section
variable (Sp : Nat → List V → V → Prop)
noncomputable def nextIs (Q : List Slot → Prop) (ρ' : List Slot) : Prop := Q ρ'
mutual
noncomputable def wpS : CS → List Slot → (Out → Prop) → Prop
  | .assign x e, ρ, Q => wpE Sp e ρ fun v ρ₁ => Q (.next (ρ₁.set x (.fro v)))
  | .ownList x es, ρ, Q => wpEs Sp es ρ fun vs ρ₁ => Q (.next (ρ₁.set x (.own vs)))
  | .ownCat x y e, ρ, Q => slotV (ρ.getD y .undef) ≠ none ∧ wpE Sp e ρ fun v ρ₁ => ∃ l l', slotV (ρ₁.getD y .undef) = some (.list l) ∧ v = .list l' ∧ l.length + l'.length ≤ 1048576 ∧ Q (.next (ρ₁.set x (.own (l ++ l'))))
  | .chain xs e, ρ, Q => wpE Sp e ρ fun v ρ₁ => Q (.next (xs.foldl (fun r x => r.set x (.fro v)) ρ₁))
  | .unpack x y e, ρ, Q => wpE Sp e ρ fun v ρ₁ => bindP x y v ρ₁ fun ρ₂ => Q (.next ρ₂)
  | .append x e, ρ, Q => (∃ l, ρ.getD x .undef = .own l) ∧ wpE Sp e ρ fun v ρ₁ => match ρ₁.getD x .undef with
    | .own l => l.length ≤ 1048576 ∧ Q (.next (ρ₁.set x (.own (l ++ [v]))))
    | _ => False
  | .setItem x i e, ρ, Q => wpE Sp e ρ fun v ρ₁ => slotV (ρ₁.getD x .undef) ≠ none ∧ wpE Sp i ρ₁ fun vi ρ₂ => match ρ₂.getD x .undef with
    | .own l => ∃ k : Int, vi = .int k ∧ 0 ≤ k ∧ k < l.length ∧ l.length ≤ 1048576 ∧ Q (.next (ρ₂.set x (.own (l.set k.toNat v))))
    | _ => False
  | .aug x op e, ρ, Q => ∃ i, ρ.getD x .undef = .fro (.int i) ∧ wpE Sp e ρ fun v ρ₁ => ∃ r, binV op (.int i) v = some r ∧ Q (.next (ρ₁.set x (.fro r)))
  | .ext x e, ρ, Q => (∃ l, ρ.getD x .undef = .own l) ∧ wpE Sp e ρ fun v ρ₁ => ∃ l', v = .list l' ∧ match ρ₁.getD x .undef with
    | .own l => l.length + l'.length ≤ 1048576 ∧ Q (.next (ρ₁.set x (.own (l ++ l'))))
    | _ => False
  | .ite t a b, ρ, Q => wpE Sp t ρ fun v ρ₁ => ∃ x, v = .bool x ∧ (x = true → wpSs a ρ₁ Q) ∧ (x = false → wpSs b ρ₁ Q)
  | .whil t b, ρ, Q => ∃ n, whileN (fun ρ k => wpE Sp t ρ fun v ρ₁ => ∃ x, v = .bool x ∧ k x ρ₁) (fun ρ k => wpSs b ρ k) n ρ Q
  | .for1 x it b, ρ, Q => wpE Sp it ρ fun vi ρ₁ => ∃ items, iterV vi = some items ∧ forL (bind1 x) (fun ρ k => wpSs b ρ k) items ρ₁ Q
  | .for2 x y it b, ρ, Q => wpE Sp it ρ fun vi ρ₁ => ∃ items, iterV vi = some items ∧ forL (bindP x y) (fun ρ k => wpSs b ρ k) items ρ₁ Q
  | .forEsc x y e b, ρ, Q => wpE Sp e ρ fun v ρ₁ => ∃ z : Str, v = .str z ∧ z.length ≤ 1048576 ∧ forL (bindP x y) (fun ρ k => wpSs b ρ k) (escV z) ρ₁ Q
  | .brk, ρ, Q => Q (.brk ρ)
  | .ret e, ρ, Q => wpE Sp e ρ fun v _ => Q (.ret v)
noncomputable def wpSs : List CS → List Slot → (Out → Prop) → Prop
  | [], ρ, Q => Q (.next ρ)
  | s :: r, ρ, Q => wpS s ρ fun o => match o with
    | .next ρ₁ => wpSs r ρ₁ Q
    | o => Q o
end
end
end Mine

-- part 3
namespace Mine

structure Gl where
  fn : List (Str × Nat)
  me : List (Str × Nat)

section
variable {a b c d e f g h : Bool}
theorem a1 (x : (a && b) = true) : a = true := (Bool.and_eq_true_iff.mp x).1
theorem a2 (x : (a && b) = true) : b = true := (Bool.and_eq_true_iff.mp x).2
theorem not_t (x : (!a) = true) : a = false := Eq.mp (Bool.not_eq_true' a) x
theorem eq_t {α : Type} [BEq α] [LawfulBEq α] {x y : α} (z : (x == y) = true) : x = y := beq_iff_eq.mp z
end
theorem arm {c P : Prop} [Decidable c] {f : c → Bool} (h : dite c f (fun _ => false) = true) (k : ∀ hc, f hc = true → P) : P := by
  by_cases hc : c
  · exact k hc ((dif_pos hc).symm.trans h)
  · exact nomatch (dif_neg (t := f) (e := fun _ => false) hc).symm.trans h
section
variable {α : Type}
noncomputable def nil0 (l : List α) : Bool := match l with
  | [] => true
  | _ :: _ => false
noncomputable def one (l : List α) (k : α → Bool) : Bool := match l with
  | [] => false
  | x :: r => nil0 r && k x
noncomputable def two (l : List α) (k : α → α → Bool) : Bool := match l with
  | [] => false
  | x :: r => one r (k x)
noncomputable def three (l : List α) (k : α → α → α → Bool) : Bool := match l with
  | [] => false
  | x :: r => two r (k x)
noncomputable def unc (l : List α) (k : α → List α → Bool) : Bool := match l with
  | [] => false
  | x :: r => k x r
noncomputable def opt (o : Option α) (k : α → Bool) : Bool := match o with
  | none => false
  | some x => k x
@[elab_as_elim] theorem unc_el {P : List α → Prop} {l : List α} {k : α → List α → Bool} (h : unc l k = true) (f : ∀ x r, k x r = true → P (x :: r)) : P l := match l, h with
  | x :: r, h => f x r h
@[elab_as_elim] theorem opt_el {P : Option α → Prop} {o : Option α} {k : α → Bool} (h : opt o k = true) (f : ∀ x, k x = true → P (some x)) : P o := match o, h with
  | some x, h => f x h
@[elab_as_elim] theorem nil0_el {P : List α → Prop} {l : List α} (h : nil0 l = true) (f : P []) : P l := match l, h with
  | [], _ => f
@[elab_as_elim] theorem one_el {P : List α → Prop} {l : List α} {k : α → Bool} (h : one l k = true) (f : ∀ x, k x = true → P [x]) : P l := match l, h with
  | x :: _, h => nil0_el (P := fun r => P (x :: r)) (a1 h) (f x (a2 h))
@[elab_as_elim] theorem two_el {P : List α → Prop} {l : List α} {k : α → α → Bool} (h : two l k = true) (f : ∀ x y, k x y = true → P [x, y]) : P l := match l, h with
  | x :: _, h => one_el (P := fun r => P (x :: r)) h (f x)
@[elab_as_elim] theorem three_el {P : List α → Prop} {l : List α} {k : α → α → α → Bool} (h : three l k = true) (f : ∀ x y z, k x y z = true → P [x, y, z]) : P l := match l, h with
  | x :: _, h => two_el (P := fun r => P (x :: r)) h (f x)
end
noncomputable def eBool (e : Expr) (k : BoolOp → List Expr → Pos → Bool) : Bool := if h : e.ctorIdx = 0 then PySem.Expr.BoolOp.elim (motive_1 := fun _ => Bool) e h k else false
@[elab_as_elim] theorem eBool_el {P : Expr → Prop} {e : Expr} {k : BoolOp → List Expr → Pos → Bool} (h : eBool e k = true) (f : ∀ op values pos, k op values pos = true → P (.BoolOp op values pos)) : P e :=
  arm h fun hc h => PySem.Expr.BoolOp.elim (motive_1 := fun e => ∀ h, PySem.Expr.BoolOp.elim (motive_1 := fun _ => Bool) e h k = true → P e) e hc (fun op values pos _ h => f op values pos h) hc h
noncomputable def eBin (e : Expr) (k : Expr → Operator → Expr → Pos → Bool) : Bool := if h : e.ctorIdx = 2 then PySem.Expr.BinOp.elim (motive_1 := fun _ => Bool) e h k else false
@[elab_as_elim] theorem eBin_el {P : Expr → Prop} {e : Expr} {k : Expr → Operator → Expr → Pos → Bool} (h : eBin e k = true) (f : ∀ l op r pos, k l op r pos = true → P (.BinOp l op r pos)) : P e :=
  arm h fun hc h => PySem.Expr.BinOp.elim (motive_1 := fun e => ∀ h, PySem.Expr.BinOp.elim (motive_1 := fun _ => Bool) e h k = true → P e) e hc (fun l op r pos _ h => f l op r pos h) hc h
noncomputable def eUn (e : Expr) (k : UnaryOp → Expr → Pos → Bool) : Bool := if h : e.ctorIdx = 3 then PySem.Expr.UnaryOp.elim (motive_1 := fun _ => Bool) e h k else false
@[elab_as_elim] theorem eUn_el {P : Expr → Prop} {e : Expr} {k : UnaryOp → Expr → Pos → Bool} (h : eUn e k = true) (f : ∀ op x pos, k op x pos = true → P (.UnaryOp op x pos)) : P e :=
  arm h fun hc h => PySem.Expr.UnaryOp.elim (motive_1 := fun e => ∀ h, PySem.Expr.UnaryOp.elim (motive_1 := fun _ => Bool) e h k = true → P e) e hc (fun op x pos _ h => f op x pos h) hc h
noncomputable def eIf (e : Expr) (k : Expr → Expr → Expr → Pos → Bool) : Bool := if h : e.ctorIdx = 5 then PySem.Expr.IfExp.elim (motive_1 := fun _ => Bool) e h k else false
@[elab_as_elim] theorem eIf_el {P : Expr → Prop} {e : Expr} {k : Expr → Expr → Expr → Pos → Bool} (h : eIf e k = true) (f : ∀ t a b pos, k t a b pos = true → P (.IfExp t a b pos)) : P e :=
  arm h fun hc h => PySem.Expr.IfExp.elim (motive_1 := fun e => ∀ h, PySem.Expr.IfExp.elim (motive_1 := fun _ => Bool) e h k = true → P e) e hc (fun t a b pos _ h => f t a b pos h) hc h
noncomputable def eLc (e : Expr) (k : Expr → List Comprehension → Scope → Pos → Bool) : Bool := if h : e.ctorIdx = 8 then PySem.Expr.ListComp.elim (motive_1 := fun _ => Bool) e h k else false
@[elab_as_elim] theorem eLc_el {P : Expr → Prop} {e : Expr} {k : Expr → List Comprehension → Scope → Pos → Bool} (h : eLc e k = true) (f : ∀ x gs sc pos, k x gs sc pos = true → P (.ListComp x gs sc pos)) : P e :=
  arm h fun hc h => PySem.Expr.ListComp.elim (motive_1 := fun e => ∀ h, PySem.Expr.ListComp.elim (motive_1 := fun _ => Bool) e h k = true → P e) e hc (fun x gs sc pos _ h => f x gs sc pos h) hc h
noncomputable def eCmp (e : Expr) (k : Expr → List CmpOp → List Expr → Pos → Bool) : Bool := if h : e.ctorIdx = 15 then PySem.Expr.Compare.elim (motive_1 := fun _ => Bool) e h k else false
@[elab_as_elim] theorem eCmp_el {P : Expr → Prop} {e : Expr} {k : Expr → List CmpOp → List Expr → Pos → Bool} (h : eCmp e k = true) (f : ∀ l ops rs pos, k l ops rs pos = true → P (.Compare l ops rs pos)) : P e :=
  arm h fun hc h => PySem.Expr.Compare.elim (motive_1 := fun e => ∀ h, PySem.Expr.Compare.elim (motive_1 := fun _ => Bool) e h k = true → P e) e hc (fun l ops rs pos _ h => f l ops rs pos h) hc h
noncomputable def eCall (e : Expr) (k : Expr → List Expr → List Keyword → Pos → Bool) : Bool := if h : e.ctorIdx = 16 then PySem.Expr.Call.elim (motive_1 := fun _ => Bool) e h k else false
@[elab_as_elim] theorem eCall_el {P : Expr → Prop} {e : Expr} {k : Expr → List Expr → List Keyword → Pos → Bool} (h : eCall e k = true) (f : ∀ fn args kws pos, k fn args kws pos = true → P (.Call fn args kws pos)) : P e :=
  arm h fun hc h => PySem.Expr.Call.elim (motive_1 := fun e => ∀ h, PySem.Expr.Call.elim (motive_1 := fun _ => Bool) e h k = true → P e) e hc (fun fn args kws pos _ h => f fn args kws pos h) hc h
noncomputable def eConst (e : Expr) (k : Const → Nat → Pos → Bool) : Bool := if h : e.ctorIdx = 19 then PySem.Expr.Constant.elim (motive_1 := fun _ => Bool) e h k else false
@[elab_as_elim] theorem eConst_el {P : Expr → Prop} {e : Expr} {k : Const → Nat → Pos → Bool} (h : eConst e k = true) (f : ∀ v n pos, k v n pos = true → P (.Constant v n pos)) : P e :=
  arm h fun hc h => PySem.Expr.Constant.elim (motive_1 := fun e => ∀ h, PySem.Expr.Constant.elim (motive_1 := fun _ => Bool) e h k = true → P e) e hc (fun v n pos _ h => f v n pos h) hc h
noncomputable def eAttr (e : Expr) (k : Expr → Str → Pos → Bool) : Bool := if h : e.ctorIdx = 20 then PySem.Expr.Attribute.elim (motive_1 := fun _ => Bool) e h k else false
@[elab_as_elim] theorem eAttr_el {P : Expr → Prop} {e : Expr} {k : Expr → Str → Pos → Bool} (h : eAttr e k = true) (f : ∀ o m pos, k o m pos = true → P (.Attribute o m pos)) : P e :=
  arm h fun hc h => PySem.Expr.Attribute.elim (motive_1 := fun e => ∀ h, PySem.Expr.Attribute.elim (motive_1 := fun _ => Bool) e h k = true → P e) e hc (fun o m pos _ h => f o m pos h) hc h
noncomputable def eSub (e : Expr) (k : Expr → Expr → Pos → Bool) : Bool := if h : e.ctorIdx = 21 then PySem.Expr.Subscript.elim (motive_1 := fun _ => Bool) e h k else false
@[elab_as_elim] theorem eSub_el {P : Expr → Prop} {e : Expr} {k : Expr → Expr → Pos → Bool} (h : eSub e k = true) (f : ∀ o x pos, k o x pos = true → P (.Subscript o x pos)) : P e :=
  arm h fun hc h => PySem.Expr.Subscript.elim (motive_1 := fun e => ∀ h, PySem.Expr.Subscript.elim (motive_1 := fun _ => Bool) e h k = true → P e) e hc (fun o x pos _ h => f o x pos h) hc h
noncomputable def eName (e : Expr) (k : Str → Pos → Bool) : Bool := if h : e.ctorIdx = 23 then PySem.Expr.Name.elim (motive_1 := fun _ => Bool) e h k else false
@[elab_as_elim] theorem eName_el {P : Expr → Prop} {e : Expr} {k : Str → Pos → Bool} (h : eName e k = true) (f : ∀ id pos, k id pos = true → P (.Name id pos)) : P e :=
  arm h fun hc h => PySem.Expr.Name.elim (motive_1 := fun e => ∀ h, PySem.Expr.Name.elim (motive_1 := fun _ => Bool) e h k = true → P e) e hc (fun id pos _ h => f id pos h) hc h
noncomputable def eList (e : Expr) (k : List Expr → Pos → Bool) : Bool := if h : e.ctorIdx = 24 then PySem.Expr.List.elim (motive_1 := fun _ => Bool) e h k else false
@[elab_as_elim] theorem eList_el {P : Expr → Prop} {e : Expr} {k : List Expr → Pos → Bool} (h : eList e k = true) (f : ∀ es pos, k es pos = true → P (.List es pos)) : P e :=
  arm h fun hc h => PySem.Expr.List.elim (motive_1 := fun e => ∀ h, PySem.Expr.List.elim (motive_1 := fun _ => Bool) e h k = true → P e) e hc (fun es pos _ h => f es pos h) hc h
noncomputable def eTup (e : Expr) (k : List Expr → Nat → Pos → Bool) : Bool := if h : e.ctorIdx = 25 then PySem.Expr.Tuple.elim (motive_1 := fun _ => Bool) e h k else false
@[elab_as_elim] theorem eTup_el {P : Expr → Prop} {e : Expr} {k : List Expr → Nat → Pos → Bool} (h : eTup e k = true) (f : ∀ es n pos, k es n pos = true → P (.Tuple es n pos)) : P e :=
  arm h fun hc h => PySem.Expr.Tuple.elim (motive_1 := fun e => ∀ h, PySem.Expr.Tuple.elim (motive_1 := fun _ => Bool) e h k = true → P e) e hc (fun es n pos _ h => f es n pos h) hc h
noncomputable def eSlice (e : Expr) (k : Option Expr → Option Expr → Option Expr → Pos → Bool) : Bool := if h : e.ctorIdx = 26 then PySem.Expr.Slice.elim (motive_1 := fun _ => Bool) e h k else false
@[elab_as_elim] theorem eSlice_el {P : Expr → Prop} {e : Expr} {k : Option Expr → Option Expr → Option Expr → Pos → Bool} (h : eSlice e k = true) (f : ∀ l hi s pos, k l hi s pos = true → P (.Slice l hi s pos)) : P e :=
  arm h fun hc h => PySem.Expr.Slice.elim (motive_1 := fun e => ∀ h, PySem.Expr.Slice.elim (motive_1 := fun _ => Bool) e h k = true → P e) e hc (fun l hi s pos _ h => f l hi s pos h) hc h
noncomputable def sRet (e : Stmt) (k : Option Expr → Pos → Bool) : Bool := if h : e.ctorIdx = 3 then PySem.Stmt.Return.elim (motive_2 := fun _ => Bool) e h k else false
@[elab_as_elim] theorem sRet_el {P : Stmt → Prop} {e : Stmt} {k : Option Expr → Pos → Bool} (h : sRet e k = true) (f : ∀ v pos, k v pos = true → P (.Return v pos)) : P e :=
  arm h fun hc h => PySem.Stmt.Return.elim (motive_2 := fun e => ∀ h, PySem.Stmt.Return.elim (motive_2 := fun _ => Bool) e h k = true → P e) e hc (fun v pos _ h => f v pos h) hc h
noncomputable def sAssign (e : Stmt) (k : List Expr → Expr → Pos → Bool) : Bool := if h : e.ctorIdx = 5 then PySem.Stmt.Assign.elim (motive_2 := fun _ => Bool) e h k else false
@[elab_as_elim] theorem sAssign_el {P : Stmt → Prop} {e : Stmt} {k : List Expr → Expr → Pos → Bool} (h : sAssign e k = true) (f : ∀ ts v pos, k ts v pos = true → P (.Assign ts v pos)) : P e :=
  arm h fun hc h => PySem.Stmt.Assign.elim (motive_2 := fun e => ∀ h, PySem.Stmt.Assign.elim (motive_2 := fun _ => Bool) e h k = true → P e) e hc (fun ts v pos _ h => f ts v pos h) hc h
noncomputable def sAug (e : Stmt) (k : Expr → Operator → Expr → Pos → Bool) : Bool := if h : e.ctorIdx = 7 then PySem.Stmt.AugAssign.elim (motive_2 := fun _ => Bool) e h k else false
@[elab_as_elim] theorem sAug_el {P : Stmt → Prop} {e : Stmt} {k : Expr → Operator → Expr → Pos → Bool} (h : sAug e k = true) (f : ∀ t op v pos, k t op v pos = true → P (.AugAssign t op v pos)) : P e :=
  arm h fun hc h => PySem.Stmt.AugAssign.elim (motive_2 := fun e => ∀ h, PySem.Stmt.AugAssign.elim (motive_2 := fun _ => Bool) e h k = true → P e) e hc (fun t op v pos _ h => f t op v pos h) hc h
noncomputable def sFor (e : Stmt) (k : Expr → Expr → List Stmt → List Stmt → Pos → Bool) : Bool := if h : e.ctorIdx = 9 then PySem.Stmt.For.elim (motive_2 := fun _ => Bool) e h k else false
@[elab_as_elim] theorem sFor_el {P : Stmt → Prop} {e : Stmt} {k : Expr → Expr → List Stmt → List Stmt → Pos → Bool} (h : sFor e k = true) (f : ∀ t i b o pos, k t i b o pos = true → P (.For t i b o pos)) : P e :=
  arm h fun hc h => PySem.Stmt.For.elim (motive_2 := fun e => ∀ h, PySem.Stmt.For.elim (motive_2 := fun _ => Bool) e h k = true → P e) e hc (fun t i b o pos _ h => f t i b o pos h) hc h
noncomputable def sWhile (e : Stmt) (k : Expr → List Stmt → List Stmt → Pos → Bool) : Bool := if h : e.ctorIdx = 11 then PySem.Stmt.While.elim (motive_2 := fun _ => Bool) e h k else false
@[elab_as_elim] theorem sWhile_el {P : Stmt → Prop} {e : Stmt} {k : Expr → List Stmt → List Stmt → Pos → Bool} (h : sWhile e k = true) (f : ∀ t b o pos, k t b o pos = true → P (.While t b o pos)) : P e :=
  arm h fun hc h => PySem.Stmt.While.elim (motive_2 := fun e => ∀ h, PySem.Stmt.While.elim (motive_2 := fun _ => Bool) e h k = true → P e) e hc (fun t b o pos _ h => f t b o pos h) hc h
noncomputable def sIf (e : Stmt) (k : Expr → List Stmt → List Stmt → Pos → Bool) : Bool := if h : e.ctorIdx = 12 then PySem.Stmt.If.elim (motive_2 := fun _ => Bool) e h k else false
@[elab_as_elim] theorem sIf_el {P : Stmt → Prop} {e : Stmt} {k : Expr → List Stmt → List Stmt → Pos → Bool} (h : sIf e k = true) (f : ∀ t b o pos, k t b o pos = true → P (.If t b o pos)) : P e :=
  arm h fun hc h => PySem.Stmt.If.elim (motive_2 := fun e => ∀ h, PySem.Stmt.If.elim (motive_2 := fun _ => Bool) e h k = true → P e) e hc (fun t b o pos _ h => f t b o pos h) hc h
noncomputable def sExpr (e : Stmt) (k : Expr → Pos → Bool) : Bool := if h : e.ctorIdx = 24 then PySem.Stmt.Expr.elim (motive_2 := fun _ => Bool) e h k else false
@[elab_as_elim] theorem sExpr_el {P : Stmt → Prop} {e : Stmt} {k : Expr → Pos → Bool} (h : sExpr e k = true) (f : ∀ v pos, k v pos = true → P (.Expr v pos)) : P e :=
  arm h fun hc h => PySem.Stmt.Expr.elim (motive_2 := fun e => ∀ h, PySem.Stmt.Expr.elim (motive_2 := fun _ => Bool) e h k = true → P e) e hc (fun v pos _ h => f v pos h) hc h
noncomputable def sBreak (e : Stmt) (k : Pos → Bool) : Bool := if h : e.ctorIdx = 26 then PySem.Stmt.Break.elim (motive_2 := fun _ => Bool) e h k else false
@[elab_as_elim] theorem sBreak_el {P : Stmt → Prop} {e : Stmt} {k : Pos → Bool} (h : sBreak e k = true) (f : ∀ pos, k pos = true → P (.Break pos)) : P e :=
  arm h fun hc h => PySem.Stmt.Break.elim (motive_2 := fun e => ∀ h, PySem.Stmt.Break.elim (motive_2 := fun _ => Bool) e h k = true → P e) e hc (fun pos _ h => f pos h) hc h
noncomputable def eCallN (e : Expr) (k : Str → List Expr → Bool) : Bool := eCall e fun f args kws _ => nil0 kws && eName f fun id _ => k id args
@[elab_as_elim] theorem eCallN_el {P : Expr → Prop} {e : Expr} {k : Str → List Expr → Bool} (h : eCallN e k = true) (f : ∀ id p args pos, k id args = true → P (.Call (.Name id p) args [] pos)) : P e :=
  eCall_el h fun g args kws pos h => nil0_el (P := fun z => P (.Call g args z pos)) (a1 h) (eName_el (P := fun z => P (.Call z args [] pos)) (a2 h) fun id p h => f id p args pos h)
noncomputable def eCallM (e : Expr) (k : Expr → Str → List Expr → Bool) : Bool := eCall e fun f args kws q => nil0 kws && eAttr f fun o m p => p.endLine == q.line && k o m args
@[elab_as_elim] theorem eCallM_el {P : Expr → Prop} {e : Expr} {k : Expr → Str → List Expr → Bool} (h : eCallM e k = true) (f : ∀ o m p args q, p.endLine = q.line → k o m args = true → P (.Call (.Attribute o m p) args [] q)) : P e :=
  eCall_el h fun g args kws pos h => nil0_el (P := fun z => P (.Call g args z pos)) (a1 h) (eAttr_el (P := fun z => P (.Call z args [] pos)) (a2 h) fun o m p h => f o m p args pos (eq_t (a1 h)) (a2 h))
noncomputable def eTwo (e : Expr) (k : Str → Str → Bool) : Bool := eTup e fun es _ _ => two es fun x y => eName x fun i _ => eName y fun j _ => k i j
@[elab_as_elim] theorem eTwo_el {P : Expr → Prop} {e : Expr} {k : Str → Str → Bool} (h : eTwo e k = true) (f : ∀ i p j q n r, k i j = true → P (.Tuple [.Name i p, .Name j q] n r)) : P e :=
  eTup_el h fun es n r h => two_el (P := fun z => P (.Tuple z n r)) h fun x y h => eName_el (P := fun z => P (.Tuple [z, y] n r)) h fun i p h => eName_el (P := fun z => P (.Tuple [.Name i p, z] n r)) h fun j q h => f i p j q n r h

noncomputable def isVar (sc : Scope) (vars : List Str) (i : Nat) (id : Str) : Bool :=
  (sc.names.lookup id == some .local || (sc.names.lookup id == some .cell || sc.names.lookup id == some .free)) && ((vars[i]? == some id) && (!(id == ("__debug__" : Str)) && !(id == ("__classdict__" : Str))))
noncomputable def isGlob (sc : Scope) (id : Str) : Bool := sc.names.lookup id == some .globalImplicit && !(id == ("__debug__" : Str))
noncomputable def bltNames : List Str := ["len", "max", "sum", "tuple", "sorted", "range", "zip", "enumerate", "bytes", "iter", "next", "StopIteration"]
noncomputable def isBlt (gl : Gl) (sc : Scope) (id want : Str) : Bool := id == want && (isGlob sc id && (gl.fn.lookup id).isNone)
noncomputable def attrName : Nat → Str
  | 0 => "n"
  | 1 => "nt"
  | 2 => "norm"
  | _ => "is_simple"
noncomputable def compScope (sc sc' : Scope) (xs vars : List Str) : Bool :=
  sc'.kind == .function && (sc'.isGenerator == false && (sc'.isCoroutine == false &&
  (sc'.names.all (fun p => sc'.names.lookup p.1 == some p.2) &&
  (sc'.names.all (fun p => p.2 != .cell || xs.contains p.1) &&
  (sc'.names.all (fun p => p.2 != .free || (sc.names.lookup p.1 == some .cell || sc.names.lookup p.1 == some .free)) &&
  (vars.all (fun v => !(sc'.names.lookup v == some .local || sc'.names.lookup v == some .cell)) &&
  xs.all (fun x => !vars.contains x && (sc'.names.lookup x == some .local || sc'.names.lookup x == some .cell))))))))

noncomputable def noSet (e : Expr) : Bool := e.ctorIdx != 7
noncomputable def noStar (e : Expr) : Bool := e.ctorIdx != 22
noncomputable def notComp (e : Expr) : Bool := e.ctorIdx != 8 && (e.ctorIdx != 9 && e.ctorIdx != 10)
noncomputable def notSuper (e : Expr) : Bool := e.ctorIdx != 16
noncomputable def plainTest (e : Expr) : Bool := e.ctorIdx != 3 && (e.ctorIdx != 0 && (e.ctorIdx != 5 && e.ctorIdx != 15))
noncomputable def isCmp1 (e : Expr) : Bool := eCmp e fun _ ops rs _ => one ops fun _ => one rs fun r => noSet r
noncomputable def isZipC (c : CE) : Bool := c.ctorIdx == 33
noncomputable def isIntC (a : CE) (k : Int) : Bool := if h : a.ctorIdx = 2 then CE.int.elim (motive_1 := fun _ => Bool) a h (fun i => i == k) else false
theorem isIntC_eq {a : CE} {k : Int} (h : isIntC a k = true) : a = .int k :=
  arm h fun hc h => CE.int.elim (motive_1 := fun a => ∀ h, CE.int.elim (motive_1 := fun _ => Bool) a h (fun i => i == k) = true → a = .int k) a hc (fun _ _ h => congrArg CE.int (eq_t h)) hc h
noncomputable def isMem (a : CE) : Bool := if h : a.ctorIdx = 8 then CE.mem.elim (motive_1 := fun _ => Bool) a h (fun _ a _ => if h : a.ctorIdx = 4 then CE.var.elim (motive_1 := fun _ => Bool) a h (fun _ => true) else false) else false
@[elab_as_elim] theorem isMem_el {P : CE → Prop} {a : CE} (h : isMem a = true) (f : ∀ no i x, P (.mem no (.var i) x)) : P a :=
  arm h fun hc h => CE.mem.elim (motive_1 := fun a => ∀ h, CE.mem.elim (motive_1 := fun _ => Bool) a h (fun _ a _ => if h : a.ctorIdx = 4 then CE.var.elim (motive_1 := fun _ => Bool) a h (fun _ => true) else false) = true → P a) a hc
    (fun no a x _ h => arm h fun hc h => CE.var.elim (motive_1 := fun a => P (.mem no a x)) a hc fun i => f no i x) hc h
section
variable (gl : Gl)
mutual
noncomputable def chkE (sc : Scope) (vars : List Str) (it : Bool) : CE → Expr → Bool
  | .none, e => eConst e fun k _ _ => k == .none
  | .bool b, e => eConst e fun k _ _ => k == .bool b
  | .int i, e => eConst e fun k _ _ => k == .int i
  | .str x, e => eConst e fun k _ _ => k == .str x
  | .var i, e => eName e fun id _ => isVar sc vars i id
  | .bin op a b, e => eBin e fun l op' r _ => op' == op && (chkE sc vars false a l && chkE sc vars false b r)
  | .neg a, e => eUn e fun o x _ => o == .USub && chkE sc vars false a x
  | .cmp op a b, e => eCmp e fun l ops rs _ => one ops fun op' => one rs fun r => op' == op && (noSet r && (chkE sc vars false a l && chkE sc vars false b r))
  | .mem no a x, e => eCmp e fun l ops rs _ => one ops fun op' => one rs fun r => (if no then op' == .NotIn else op' == .In) && (chkE sc vars false a l && eName r fun id _ => isVar sc vars x id)
  | .ne0 x, e => eCmp e fun l ops rs _ => one ops fun op' => one rs fun r => op' == .NotEq && eName l fun id _ => isVar sc vars x id && eList r fun es _ => nil0 es
  | .bop op a b, e => eBool e fun op' es _ => op' == op && two es fun l r => chkE sc vars false a l && chkE sc vars false b r
  | .ite t a b, e => eIf e fun t' l r _ => plainTest t' && (chkE sc vars false t t' && (chkE sc vars false a l && chkE sc vars false b r))
  | .lst l, e => eList e fun es _ => decide (es.length ≤ 64) && chkEs sc vars l es
  | .tup l, e => eTup e fun es _ _ => decide (es.length ≤ 64) && chkEs sc vars l es
  | .sub a i, e => eSub e fun o x _ => chkE sc vars false a o && chkE sc vars false i x
  | .subv x i, e => eSub e fun o y _ => eName o fun id _ => isVar sc vars x id && chkE sc vars false i y
  | .slc a lo hi st, e => eSub e fun o y _ => eSlice y fun l h s _ => chkE sc vars false a o && (chkO sc vars lo l && (chkO sc vars hi h && chkO sc vars st s))
  | .slcv x lo hi st, e => eSub e fun o y _ => eName o fun id _ => eSlice y fun l h s _ => isVar sc vars x id && (chkO sc vars lo l && (chkO sc vars hi h && chkO sc vars st s))
  | .len a, e => eCallN e fun f es => one es fun x => isBlt gl sc f "len" && (noStar x && chkE sc vars false a x)
  | .lenv x, e => eCallN e fun f es => one es fun y => isBlt gl sc f "len" && eName y fun id _ => isVar sc vars x id
  | .call n args, e => eCallN e fun f es => gl.fn.lookup f == some n && (isGlob sc f && chkEs sc vars args es)
  | .callv n x b, e => eCallN e fun f es => two es fun z y => gl.fn.lookup f == some n && (isGlob sc f && eName z fun id _ => isVar sc vars x id && (noStar y && chkE sc vars false b y))
  | .max a b, e => eCallN e fun f es => two es fun x y => isBlt gl sc f "max" && (noStar x && (noStar y && (chkE sc vars false a x && chkE sc vars false b y)))
  | .sum a, e => eCallN e fun f es => one es fun x => isBlt gl sc f "sum" && (noStar x && chkE sc vars false a x)
  | .tuple a, e => eCallN e fun f es => one es fun x => isBlt gl sc f "tuple" && (noStar x && chkE sc vars false a x)
  | .sorted a, e => eCallN e fun f es => one es fun x => isBlt gl sc f "sorted" && (noStar x && chkE sc vars false a x)
  | .join a b, e => eCallM e fun o m es => one es fun y => m == ("join" : Str) && (notSuper o && (noStar y && (chkE sc vars false a o && chkE sc vars false b y)))
  | .split a b, e => eCallM e fun o m es => one es fun y => m == ("split" : Str) && (notSuper o && (noStar y && (chkE sc vars false a o && chkE sc vars false b y)))
  | .pop x, e => eCallM e fun o m es => nil0 es && (m == ("pop" : Str) && eName o fun id _ => isVar sc vars x id)
  | .attr a f, e => eAttr e fun o m _ => m == attrName f && (chkE sc vars false a o && eName o fun _ _ => true)
  | .mcall a n args, e => eCallM e fun o m es => gl.me.lookup m == some n && (notSuper o && (decide (es.length < 16) && (chkE sc vars false a o && chkEs sc vars args es)))
  | .comp elt tw i cond, e => eLc e fun x gs sc' _ => one gs fun g => g.is_async == 0 && (noSet g.iter && (chkE sc vars true i g.iter && (match tw with
    | false => eName g.target fun id _ => !isZipC i && (compScope sc sc' [id] vars && (chkE sc' (id :: vars) false elt x && chkC sc' (id :: vars) cond g.ifs))
    | true => cond.isNone && eTwo g.target fun i₁ i₂ => !(i₁ == i₂) && (compScope sc sc' [i₁, i₂] vars && (chkE sc' (i₁ :: i₂ :: vars) false elt x && chkC sc' (i₁ :: i₂ :: vars) cond g.ifs)))))
  | .range a b c, e => it && eCallN e fun f es => isBlt gl sc f "range" &&
      ((one es fun y => noStar y && (isIntC a 0 && (chkE sc vars false b y && isIntC c 1))) ||
      ((two es fun x y => noStar x && (noStar y && (chkE sc vars false a x && (chkE sc vars false b y && isIntC c 1)))) ||
       three es fun x y z => noStar x && (noStar y && (noStar z && (chkE sc vars false a x && (chkE sc vars false b y && chkE sc vars false c z))))))
  | .zip a b, e => it && eCallN e fun f es => two es fun x y => isBlt gl sc f "zip" && (noStar x && (noStar y && (chkE sc vars false a x && chkE sc vars false b y)))
noncomputable def chkEs (sc : Scope) (vars : List Str) : List CE → List Expr → Bool
  | [], es => nil0 es
  | c :: cs, es => unc es fun e es => chkE sc vars false c e && (noStar e && chkEs sc vars cs es)
noncomputable def chkO (sc : Scope) (vars : List Str) : Option CE → Option Expr → Bool
  | none, e => e.isNone
  | some c, e => opt e fun e => chkE sc vars false c e
noncomputable def chkC (sc : Scope) (vars : List Str) : Option CE → List Expr → Bool
  | none, es => nil0 es
  | some c, es => one es fun e => isMem c && (isCmp1 e && chkE sc vars false c e)
end

noncomputable def chkT (sc : Scope) (vars : List Str) : CE → Expr → Bool
  | .bop op a b, e => eBool e fun op' es _ => op' == op && two es fun l r => chkT sc vars a l && chkT sc vars b r
  | c, e => (plainTest e || isCmp1 e) && chkE gl sc vars false c e

noncomputable def isStore (sc : Scope) (vars : List Str) (i : Nat) (id : Str) : Bool :=
  (sc.names.lookup id == some .local || sc.names.lookup id == some .cell) && (vars[i]? == some id)
noncomputable def chkNames (sc : Scope) (vars : List Str) : List Nat → List Expr → Bool
  | [], es => nil0 es
  | x :: xs, es => unc es fun e es => eName e fun id _ => sc.names.lookup id == some .local && (isStore sc vars x id && chkNames sc vars xs es)
mutual
noncomputable def chkS (sc : Scope) (vars : List Str) : CS → Stmt → Bool
  | .assign x c, e => sAssign e fun ts v _ => one ts fun t => eName t fun id _ => isStore sc vars x id && ((c.ctorIdx == 31 || notComp v) && chkE gl sc vars false c v)
  | .ownList x cs, e => sAssign e fun ts v _ => one ts fun t => eName t fun id _ => eList v fun es _ => decide (es.length ≤ 64) && (isStore sc vars x id && chkEs gl sc vars cs es)
  | .ownCat x y c, e => sAssign e fun ts v _ => one ts fun t => eName t fun id _ => eBin v fun l op r _ => op == .Add && eName l fun id₂ _ => isStore sc vars x id && (isVar sc vars y id₂ && chkE gl sc vars false c r)
  | .chain xs c, e => sAssign e fun ts v _ => decide (2 ≤ xs.length) && (chkNames sc vars xs ts && (chkE gl sc vars false c v && eConst v fun _ _ _ => true))
  | .unpack x y c, e => sAssign e fun ts v _ => one ts fun t => eTwo t fun i₁ i₂ => !(x == y) && (isStore sc vars x i₁ && (isStore sc vars y i₂ && (v.ctorIdx != 25 && chkE gl sc vars false c v)))
  | .append x c, e => sExpr e fun v _ => eCallM v fun o m es => one es fun y => m == ("append" : Str) && eName o fun id _ => noStar y && (isVar sc vars x id && chkE gl sc vars false c y)
  | .setItem x i c, e => sAssign e fun ts v _ => one ts fun t => eSub t fun o j _ => eName o fun id _ => v.ctorIdx == 2 && (isVar sc vars x id && (chkE gl sc vars false i j && chkE gl sc vars false c v))
  | .ext x c, e => sAug e fun t op v _ => eName t fun id _ => op == .Add && (isVar sc vars x id && (isStore sc vars x id && chkE gl sc vars false c v))
  | .aug x op c, e => sAug e fun t op' v _ => eName t fun id _ => op' == op && ((op == .Add || (op == .Sub || op == .FloorDiv)) && (isVar sc vars x id && (isStore sc vars x id && chkE gl sc vars false c v)))
  | .ite t a b, e => sIf e fun t' a' b' _ => chkT gl sc vars t t' && (chkSs sc vars a a' && chkSs sc vars b b')
  | .whil t b, e => sWhile e fun t' b' o _ => nil0 o && (chkT gl sc vars t t' && chkSs sc vars b b')
  | .for1 x i b, e => sFor e fun t i' b' o _ => nil0 o && eName t fun id _ => noSet i' && (!isZipC i && (isStore sc vars x id && (chkE gl sc vars true i i' && chkSs sc vars b b')))
  | .for2 x y i b, e => sFor e fun t i' b' o _ => nil0 o && eTwo t fun i₁ i₂ => noSet i' && (!(x == y) && (isStore sc vars x i₁ && (isStore sc vars y i₂ && (chkE gl sc vars true i i' && chkSs sc vars b b'))))
  | .forEsc x y c b, e => sFor e fun t i' b' o _ => nil0 o && eTwo t fun i₁ i₂ => eCallN i' fun f es => one es fun v =>
      f == ("_iter_escaped_chars" : Str) && (noStar v && (isGlob sc f && (!(x == y) && (isStore sc vars x i₁ && (isStore sc vars y i₂ && (chkE gl sc vars false c v && chkSs sc vars b b'))))))
  | .brk, e => sBreak e fun _ => true
  | .ret c, e => sRet e fun v _ => opt v fun v => chkE gl sc vars false c v
noncomputable def chkSs (sc : Scope) (vars : List Str) : List CS → List Stmt → Bool
  | [], es => nil0 es
  | c :: cs, es => unc es fun e es => chkS sc vars c e && chkSs sc vars cs es
end
end
end Mine

-- part 4
namespace Mine
noncomputable def glo : Gl where
  fn := [("_strip_quoted_realnames", 1), ("_check_parenthesis", 2), ("le", 3), ("ge", 4), ("gt", 5), ("add", 6), ("countOf", 7), ("getitem", 8), ("Whitespace", 9), ("_law_page", 10), ("_law_ends", 11), ("_law_heads", 12), ("_law_table", 13),
    ("_law_moved", 14), ("_law_had", 15), ("_law_lines", 16), ("_law_nanny", 17), ("_law_mail", 18), ("_law_figures", 19), ("_law_read", 20)]
  me := [("longest_run_of_spaces", 31), ("indent_level", 32), ("less", 33)]
noncomputable def vs_strip_quoted_realnames : List Str := ["addr", "start", "open_pos", "result", "pos", "ch"]
noncomputable def co_strip_quoted_realnames : List CS := [
  .ite (.cmp .NotIn (.str (Str.ofString "\"")) (.var 0)) [.ret (.var 0)] [],
  .assign 1 (.int 0),
  .assign 2 .none,
  .ownList 3 [],
  .forEsc 4 5 (.var 0) [.ite (.cmp .Eq (.var 5) (.str (Str.ofString "\""))) [.ite (.cmp .Is (.var 2) .none) [.assign 2 (.var 4)] [.ite (.cmp .NotEq (.var 1) (.var 2)) [.append 3 (.slcv 0 (some (.var 1)) (some (.var 2)) .none)] [], .assign 1 (.bin .Add (.var 4) (.int 1)), .assign 2 .none]] []],
  .ite (.cmp .Lt (.var 1) (.lenv 0)) [.append 3 (.slcv 0 (some (.var 1)) .none .none)] [],
  .ret (.join (.str (Str.ofString "")) (.var 3))]
noncomputable def vs_check_parenthesis : List Str := ["addr", "opens", "pos", "ch"]
noncomputable def co_check_parenthesis : List CS := [
  .assign 0 (.call 1 [(.var 0)]),
  .assign 1 (.int 0),
  .forEsc 2 3 (.var 0) [.ite (.cmp .Eq (.var 3) (.str (Str.ofString "("))) [.aug 1 .Add (.int 1)] [.ite (.cmp .Eq (.var 3) (.str (Str.ofString ")"))) [.aug 1 .Sub (.int 1), .ite (.cmp .Lt (.var 1) (.int 0)) [.ret (.bool false)] []] []]],
  .ret (.cmp .Eq (.var 1) (.int 0))]
noncomputable def vs_le : List Str := ["a", "b"]
noncomputable def co_le : List CS := [
  .ret (.cmp .LtE (.var 0) (.var 1))]
noncomputable def vs_ge : List Str := ["a", "b"]
noncomputable def co_ge : List CS := [
  .ret (.cmp .GtE (.var 0) (.var 1))]
noncomputable def vs_gt : List Str := ["a", "b"]
noncomputable def co_gt : List CS := [
  .ret (.cmp .Gt (.var 0) (.var 1))]
noncomputable def vs_add : List Str := ["a", "b"]
noncomputable def co_add : List CS := [
  .ret (.bin .Add (.var 0) (.var 1))]
noncomputable def vs_countOf : List Str := ["a", "b", "count", "i"]
noncomputable def co_countOf : List CS := [
  .assign 2 (.int 0),
  .for1 3 (.var 0) [.ite (.bop .Or (.cmp .Is (.var 3) (.var 1)) (.cmp .Eq (.var 3) (.var 1))) [.aug 2 .Add (.int 1)] []],
  .ret (.var 2)]
noncomputable def vs_getitem : List Str := ["a", "b"]
noncomputable def co_getitem : List CS := [
  .ret (.subv 0 (.var 1))]
noncomputable def vs_longest_run_of_spaces : List Str := ["self", "count", "trailing"]
noncomputable def co_longest_run_of_spaces : List CS := [
  .unpack 1 2 (.attr (.var 0) 2),
  .ret (.max (.bin .Sub (.lenv 1) (.int 1)) (.var 2))]
noncomputable def vs_indent_level : List Str := ["self", "tabsize", "count", "trailing", "il", "i"]
noncomputable def co_indent_level : List CS := [
  .unpack 2 3 (.attr (.var 0) 2),
  .assign 4 (.int 0),
  .for1 5 (.range (.var 1) (.lenv 2) (.int 1)) [.assign 4 (.bin .Add (.var 4) (.bin .Mult (.bin .FloorDiv (.var 5) (.var 1)) (.subv 2 (.var 5))))],
  .ret (.bin .Add (.var 3) (.bin .Mult (.var 1) (.bin .Add (.var 4) (.attr (.var 0) 1))))]
noncomputable def vs_less : List Str := ["self", "other", "n", "ts"]
noncomputable def co_less : List CS := [
  .ite (.cmp .GtE (.attr (.var 0) 0) (.attr (.var 1) 0)) [.ret (.bool false)] [],
  .ite (.bop .And (.attr (.var 0) 3) (.attr (.var 1) 3)) [.ret (.cmp .LtE (.attr (.var 0) 1) (.attr (.var 1) 1))] [],
  .assign 2 (.bin .Add (.max (.mcall (.var 0) 31 []) (.mcall (.var 1) 31 [])) (.int 1)),
  .for1 3 (.range (.int 2) (.bin .Add (.var 2) (.int 1)) (.int 1)) [.ite (.cmp .GtE (.mcall (.var 0) 32 [(.var 3)]) (.mcall (.var 1) 32 [(.var 3)])) [.ret (.bool false)] []],
  .ret (.bool true)]
noncomputable def vs_law_page : List Str := ["tells", "page", "x"]
noncomputable def co_law_page : List CS := [
  .ownList 1 [(.int 0)],
  .for1 2 (.slcv 0 .none (some (.int 3)) .none) [.append 1 (.bin .Mod (.var 2) (.bin .Add (.subv 1 (.neg (.int 1))) (.int 2)))],
  .ret (.var 1)]
noncomputable def vs_law_ends : List Str := ["page", "ends", "i", "e"]
noncomputable def co_law_ends : List CS := [
  .ownList 1 [],
  .for1 2 (.range (.int 0) (.int 4) (.int 1)) [.assign 3 (.bin .Add (.var 2) (.int 1)), .whil (.bop .And (.cmp .Lt (.var 3) (.int 4)) (.cmp .Gt (.subv 0 (.var 3)) (.subv 0 (.var 2)))) [.aug 3 .Add (.int 1)], .append 1 (.var 3)],
  .ret (.var 1)]
noncomputable def vs_law_heads : List Str := ["page", "heads", "i", "k"]
noncomputable def co_law_heads : List CS := [
  .ownList 1 [],
  .for1 2 (.range (.int 0) (.int 4) (.int 1)) [.assign 3 (.bin .Sub (.var 2) (.int 1)), .whil (.bop .And (.cmp .GtE (.var 3) (.int 0)) (.cmp .GtE (.subv 0 (.var 3)) (.subv 0 (.var 2)))) [.aug 3 .Sub (.int 1)], .append 1 (.var 3)],
  .ret (.var 1)]
noncomputable def vs_law_table : List Str := ["page", "sizes", "ends"]
noncomputable def co_law_table : List CS := [
  .assign 2 (.call 11 [(.var 0)]),
  .ret (.comp (.tup [(.sum (.slcv 2 .none (some (.var 0)) .none)), (.sum (.slcv 2 (some (.var 0)) (some (.subv 3 (.var 0))) .none))]) false (.range (.int 0) (.int 4) (.int 1)) .none)]
noncomputable def vs_law_moved : List Str := ["page", "way", "ends", "made", "j", "e", "free"]
noncomputable def co_law_moved : List CS := [
  .assign 2 (.call 11 [(.var 0)]),
  .ownList 3 [],
  .for1 4 (.range (.int 1) (.int 4) (.int 1)) [.assign 5 (.subv 2 (.var 4)), .ite (.cmp .Eq (.var 1) (.int 1)) [.assign 6 (.cmp .GtE (.subv 0 (.bin .Sub (.var 4) (.int 1))) (.subv 0 (.var 4)))] [.assign 6 (.bop .And (.cmp .Gt (.subv 0 (.var 4)) (.int 0)) (.bop .Or (.cmp .Eq (.var 5) (.int 4)) (.cmp .Lt (.subv 0 (.var 5)) (.subv 0 (.var 4)))))], .ite (.var 6) [.append 3 (.bin .Add (.bin .Add (.slcv 0 .none (some (.var 4)) .none) (.comp (.bin .Add (.var 0) (.var 2)) false (.slcv 0 (some (.var 4)) (some (.var 5)) .none) .none)) (.slcv 0 (some (.var 5)) .none .none))] []],
  .ret (.var 3)]
noncomputable def vs_law_had : List Str := ["page", "way", "found", "k", "made"]
noncomputable def co_law_had : List CS := [
  .ownList 2 [(.var 0)],
  .assign 3 (.int 0),
  .whil (.cmp .Lt (.var 3) (.lenv 2)) [.for1 4 (.call 14 [(.subv 2 (.var 3)), (.var 1)]) [.ite (.mem true (.var 4) 2) [.append 2 (.var 4)] []], .aug 3 .Add (.int 1)],
  .ret (.var 2)]
noncomputable def vs_law_lines : List Str := ["page", "tells", "units", "heads", "leads", "lines", "i", "lead", "runs"]
noncomputable def co_law_lines : List CS := [
  .assign 2 (.lst [(.str (Str.ofString "  \t\t")), (.str (Str.ofString " \t \t")), (.str (Str.ofString "\t   ")), (.str (Str.ofString "    "))]),
  .assign 3 (.call 12 [(.var 0)]),
  .ownList 4 [],
  .ownList 5 [],
  .for1 6 (.range (.int 0) (.int 4) (.int 1)) [.assign 7 (.bin .Add (.subv 2 (.var 6)) (.bin .Mult (.str (Str.ofString " ")) (.bin .Mod (.bin .FloorDiv (.subv 1 (.var 6)) (.int 18)) (.int 3)))), .ite (.cmp .GtE (.subv 3 (.var 6)) (.int 0)) [.assign 7 (.bin .Add (.subv 4 (.subv 3 (.var 6))) (.var 7))] [], .append 4 (.var 7), .assign 8 (.split (.var 7) (.str (Str.ofString "\t"))), .ite (.cmp .Eq (.bin .Mod (.bin .FloorDiv (.subv 1 (.var 6)) (.int 36)) (.int 2)) (.int 1)) [.assign 8 (.bin .Add (.slc (.slcv 8 .none (some (.neg (.int 1))) .none) .none .none (some (.neg (.int 1)))) (.slcv 8 (some (.neg (.int 1))) .none .none))] [], .append 5 (.bin .Add (.join (.str (Str.ofString "\t")) (.var 8)) (.str (Str.ofString "x\t ")))],
  .ret (.var 5)]
noncomputable def vs_law_nanny : List Str := ["lines", "leads", "heads", "i", "k", "said"]
noncomputable def co_law_nanny : List CS := [
  .assign 1 (.comp (.call 9 [(.var 0)]) false (.var 0) .none),
  .ownList 2 [],
  .for1 3 (.range (.int 0) (.int 4) (.int 1)) [.assign 4 (.bin .Sub (.var 3) (.int 1)), .whil (.cmp .GtE (.var 4) (.int 0)) [.assign 5 (.mcall (.subv 1 (.var 4)) 33 [(.subv 1 (.var 3))]), .ite (.cmp .Is (.var 5) (.bool true)) [.brk] [], .ite (.cmp .IsNot (.var 5) (.bool false)) [.ret (.lst [])] [], .aug 4 .Sub (.int 1)], .append 2 (.var 4)],
  .ret (.var 2)]
noncomputable def vs_law_mail : List Str := ["page", "tells", "opening", "closing", "pieces", "places", "standing", "i", "ends", "b", "said"]
noncomputable def co_law_mail : List CS := [
  .assign 2 (.lst [(.str (Str.ofString "(")), (.str (Str.ofString "\\\\(")), (.str (Str.ofString "\\)(")), (.str (Str.ofString "\")\"("))]),
  .assign 3 (.lst [(.str (Str.ofString ")")), (.str (Str.ofString "\\\\)")), (.str (Str.ofString "\\()")), (.str (Str.ofString "\"(\")"))]),
  .ownList 4 [],
  .ownList 5 [],
  .ownList 6 [],
  .for1 7 (.range (.int 0) (.int 4) (.int 1)) [.whil (.cmp .Gt (.lenv 6) (.subv 0 (.var 7))) [.append 4 (.subv 3 (.bin .Mod (.bin .FloorDiv (.subv 1 (.pop 6)) (.int 288)) (.int 4)))], .append 5 (.lenv 4), .append 4 (.subv 2 (.bin .Mod (.bin .FloorDiv (.subv 1 (.var 7)) (.int 72)) (.int 4))), .append 6 (.var 7)],
  .whil (.ne0 6) [.append 4 (.subv 3 (.bin .Mod (.bin .FloorDiv (.subv 1 (.pop 6)) (.int 288)) (.int 4)))],
  .ownList 8 [],
  .for1 7 (.range (.int 0) (.int 4) (.int 1)) [.for1 9 (.range (.bin .Add (.subv 5 (.var 7)) (.int 2)) (.int 9) (.int 2)) [.assign 10 (.call 2 [(.join (.str (Str.ofString "")) (.slcv 4 (some (.subv 5 (.var 7))) (some (.var 9)) .none))]), .ite (.cmp .Is (.var 10) (.bool true)) [.append 8 (.bin .Add (.var 7) (.bin .FloorDiv (.bin .Sub (.var 9) (.subv 5 (.var 7))) (.int 2))), .brk] [], .ite (.cmp .IsNot (.var 10) (.bool false)) [.ret (.lst [])] []]],
  .ite (.cmp .IsNot (.call 2 [(.join (.str (Str.ofString "")) (.bin .Add (.slcv 4 (some (.subv 5 (.int 3))) .none .none) (.slcv 4 .none (some (.subv 5 (.int 3))) .none)))]) (.cmp .Eq (.subv 0 (.int 3)) (.int 0))) [.ret (.lst [])] [],
  .ret (.var 8)]
noncomputable def vs_law_figures : List Str := ["x", "octets", "left"]
noncomputable def co_law_figures : List CS := [
  .ownList 1 [(.bin .Mod (.var 0) (.int 64))],
  .assign 2 (.bin .FloorDiv (.var 0) (.int 64)),
  .whil (.cmp .Gt (.var 2) (.int 0)) [.append 1 (.bin .Add (.int 64) (.bin .Mod (.var 2) (.int 64))), .aug 2 .FloorDiv (.int 64)],
  .ret (.slcv 1 .none .none (some (.neg (.int 1))))]
noncomputable def vs_law : List Str := ["script", "base", "tells", "first", "second", "one", "two", "sizes", "ends_one", "ends_two", "heads_one", "heads_two", "table_one", "table_two", "ends", "heads", "table", "meet", "join", "head", "below", "above"]
noncomputable def co_law : List CS := [
  .assign 1 (.lst [(.int 46255), (.int 607), (.int 8967), (.int 73), (.int 115717), (.int 39), (.int 3582), (.int 156)]),
  .assign 2 (.comp (.bin .Mod (.bin .Add (.subv 2 (.var 0)) (.sum (.slcv 1 (some (.var 0)) (some (.int 40)) (some (.int 8))))) (.bin .Pow (.int 10) (.int 9))) false (.range (.int 0) (.int 8) (.int 1)) .none),
  .assign 3 (.slcv 2 (some (.int 0)) .none (some (.int 2))),
  .assign 4 (.slcv 2 (some (.int 1)) .none (some (.int 2))),
  .assign 5 (.call 10 [(.var 3)]),
  .assign 6 (.call 10 [(.var 4)]),
  .assign 7 (.comp (.bin .Add (.int 1) (.bin .Mod (.bin .FloorDiv (.var 0) (.int 1152)) (.int 5000))) false (.var 3) .none),
  .assign 8 (.call 18 [(.var 5), (.var 3)]),
  .assign 9 (.call 18 [(.var 6), (.var 4)]),
  .ite (.bop .Or (.cmp .NotEq (.var 8) (.call 11 [(.var 5)])) (.cmp .NotEq (.var 9) (.call 11 [(.var 6)]))) [.ret (.bool false)] [],
  .assign 10 (.call 17 [(.call 16 [(.var 5), (.var 3)])]),
  .assign 11 (.call 17 [(.call 16 [(.var 6), (.var 4)])]),
  .ite (.bop .Or (.cmp .NotEq (.var 10) (.call 12 [(.var 5)])) (.cmp .NotEq (.var 11) (.call 12 [(.var 6)]))) [.ret (.bool false)] [],
  .assign 12 (.call 20 [(.call 13 [(.var 5), (.var 7)])]),
  .assign 13 (.call 20 [(.call 13 [(.var 6), (.var 7)])]),
  .ite (.bop .Or (.cmp .NotEq (.var 12) (.call 13 [(.var 5), (.var 7)])) (.cmp .NotEq (.var 13) (.call 13 [(.var 6), (.var 7)]))) [.ret (.bool false)] [],
  .assign 14 (.comp (.ite (.call 3 [(.var 0), (.var 1)]) (.var 0) (.var 1)) true (.zip (.var 8) (.var 9)) .none),
  .assign 15 (.comp (.ite (.call 4 [(.var 0), (.var 1)]) (.var 0) (.var 1)) true (.zip (.var 10) (.var 11)) .none),
  .assign 16 (.comp (.tup [(.sub (.subv 13 (.var 0)) (.int 0)), (.ite (.call 3 [(.sub (.subv 13 (.var 0)) (.int 1)), (.sub (.subv 14 (.var 0)) (.int 1))]) (.sub (.subv 13 (.var 0)) (.int 1)) (.sub (.subv 14 (.var 0)) (.int 1)))]) false (.range (.int 0) (.int 4) (.int 1)) .none),
  .assign 17 (.comp (.call 7 [(.comp (.call 5 [(.subv 16 (.var 0)), (.var 1)]) false (.range (.int 0) (.var 0) (.int 1)) .none), (.bool true)]) false (.range (.int 0) (.int 4) (.int 1)) .none),
  .ownList 18 [],
  .for1 19 (.var 15) [.append 18 (.ite (.call 4 [(.var 19), (.int 0)]) (.call 6 [(.callv 8 18 (.var 19)), (.int 1)]) (.int 0))],
  .ite (.bop .Or (.cmp .NotEq (.var 16) (.call 13 [(.var 17), (.var 7)])) (.cmp .NotEq (.var 15) (.call 12 [(.var 18)]))) [.ret (.bool false)] [],
  .assign 20 (.call 15 [(.var 6), (.neg (.int 1))]),
  .ite (.cmp .NotEq (.sorted (.comp (.var 0) false (.call 15 [(.var 5), (.neg (.int 1))]) (some (.mem false (.var 0) 21)))) (.sorted (.call 15 [(.var 17), (.neg (.int 1))]))) [.ret (.bool false)] [],
  .assign 21 (.call 15 [(.var 6), (.int 1)]),
  .ret (.cmp .Eq (.sorted (.comp (.var 0) false (.call 15 [(.var 5), (.int 1)]) (some (.mem false (.var 0) 22)))) (.sorted (.call 15 [(.var 18), (.int 1)])))]

structure Df where
  name : Str
  params : Arguments
  body : List Stmt
  scope : Scope
noncomputable def noDf : Df := ⟨"", ⟨[], [], none, [], [], none, []⟩, [], default⟩
noncomputable def asDf (x : Str) (s : Stmt) : Option Df := if h : s.ctorIdx = 0 then Stmt.FunctionDef.elim (motive_2 := fun _ => Option Df) s h (fun n a b _ _ _ sc _ _ _ => if n == x then some ⟨n, a, b, sc⟩ else none) else none
noncomputable def asCls (s : Stmt) : Option (List Stmt) := if h : s.ctorIdx = 2 then Stmt.ClassDef.elim (motive_2 := fun _ => Option (List Stmt)) s h (fun _ _ _ b _ _ _ _ _ _ _ => some b) else none
noncomputable def findDf (x : Str) (l : List Stmt) : Df := (l.findSome? (asDf x)).getD noDf
noncomputable def clsBody (l : List Stmt) : List Stmt := (l.findSome? asCls).getD []
noncomputable def topDf (x : Str) : Df := findDf x PySem.Challenge.pw_tc0021_01.main.body
noncomputable def meDf (x : Str) : Df := findDf x (clsBody PySem.Challenge.pw_tc0021_01.main.body)
theorem ok_strip_quoted_realnames : chkSs glo (topDf "_strip_quoted_realnames").scope vs_strip_quoted_realnames co_strip_quoted_realnames (topDf "_strip_quoted_realnames").body = true := by decide +kernel
theorem ok_check_parenthesis : chkSs glo (topDf "_check_parenthesis").scope vs_check_parenthesis co_check_parenthesis (topDf "_check_parenthesis").body = true := by decide +kernel
theorem ok_le : chkSs glo (topDf "le").scope vs_le co_le (topDf "le").body = true := by decide +kernel
theorem ok_ge : chkSs glo (topDf "ge").scope vs_ge co_ge (topDf "ge").body = true := by decide +kernel
theorem ok_gt : chkSs glo (topDf "gt").scope vs_gt co_gt (topDf "gt").body = true := by decide +kernel
theorem ok_add : chkSs glo (topDf "add").scope vs_add co_add (topDf "add").body = true := by decide +kernel
theorem ok_countOf : chkSs glo (topDf "countOf").scope vs_countOf co_countOf (topDf "countOf").body = true := by decide +kernel
theorem ok_getitem : chkSs glo (topDf "getitem").scope vs_getitem co_getitem (topDf "getitem").body = true := by decide +kernel
theorem ok_longest_run_of_spaces : chkSs glo (meDf "longest_run_of_spaces").scope vs_longest_run_of_spaces co_longest_run_of_spaces (meDf "longest_run_of_spaces").body = true := by decide +kernel
theorem ok_indent_level : chkSs glo (meDf "indent_level").scope vs_indent_level co_indent_level (meDf "indent_level").body = true := by decide +kernel
theorem ok_less : chkSs glo (meDf "less").scope vs_less co_less (meDf "less").body = true := by decide +kernel
theorem ok_law_page : chkSs glo (topDf "_law_page").scope vs_law_page co_law_page (topDf "_law_page").body = true := by decide +kernel
theorem ok_law_ends : chkSs glo (topDf "_law_ends").scope vs_law_ends co_law_ends (topDf "_law_ends").body = true := by decide +kernel
theorem ok_law_heads : chkSs glo (topDf "_law_heads").scope vs_law_heads co_law_heads (topDf "_law_heads").body = true := by decide +kernel
theorem ok_law_table : chkSs glo (topDf "_law_table").scope vs_law_table co_law_table (topDf "_law_table").body = true := by decide +kernel
theorem ok_law_moved : chkSs glo (topDf "_law_moved").scope vs_law_moved co_law_moved (topDf "_law_moved").body = true := by decide +kernel
theorem ok_law_had : chkSs glo (topDf "_law_had").scope vs_law_had co_law_had (topDf "_law_had").body = true := by decide +kernel
theorem ok_law_lines : chkSs glo (topDf "_law_lines").scope vs_law_lines co_law_lines (topDf "_law_lines").body = true := by decide +kernel
theorem ok_law_nanny : chkSs glo (topDf "_law_nanny").scope vs_law_nanny co_law_nanny (topDf "_law_nanny").body = true := by decide +kernel
theorem ok_law_mail : chkSs glo (topDf "_law_mail").scope vs_law_mail co_law_mail (topDf "_law_mail").body = true := by decide +kernel
theorem ok_law_figures : chkSs glo (topDf "_law_figures").scope vs_law_figures co_law_figures (topDf "_law_figures").body = true := by decide +kernel
end Mine

-- part 5
namespace Mine

structure Here (L : Addr) (g : PH) (s : Shared) : Prop where
  frz : PH.Sub g s.heap
  gL : g L = none
  ns : ∃ m, s.heap.Ns L m
theorem Here.lt {L : Addr} {g : PH} {s : Shared} (H : Here L g s) : L < s.heap.objs.size := let ⟨_, hm⟩ := H.ns; hm.lt
theorem Here.ext {L : Addr} {g g' : PH} {s s' : Shared} (H : Here L g s) (e : Ext L s g s' g') : Here L g' s' :=
  ⟨e.frz, nn fun o q => (e.new L o q).elim (nos H.gL) fun z => z.1 rfl, let ⟨m, hm⟩ := H.ns; ⟨m, e.ns m hm⟩⟩
theorem Inv.here {cx : Cx} {K g₀ g : PH} {s₀ s : Shared} {val : Nat → Value} {ρ : List Slot} (I : Inv cx K g₀ s₀ val ρ g s) : Here cx.env.locals g s := ⟨I.frz, I.gL, I.ns⟩

noncomputable abbrev Back (C L : Addr) (s : Shared) (g : PH) (r : V) (Q : Value → Shared → Prop) : Prop := ∀ v s' g', Ext L s g s' g' → Rep C g' v r → Q v s'

section
variable {prog : Program} {w : World} {A : Around} {E : Value → Shared → Prop} {s : Shared} {L C : Addr} {g : PH} {Q : Value → Shared → Prop}
theorem Back.tokI (H : Here L g s) {i : Int} {t : Tok} {tk : Nat} (h : Back C L s g (.int i) Q) : Q (.int i t) { s with toks := tk } := h _ _ g (.tok H.frz) (.int i t)
theorem Back.tokS (H : Here L g s) {i : Str} {t : Tok} {tk : Nat} (h : Back C L s g (.str i) Q) : Q (.str i t) { s with toks := tk } := h _ _ g (.tok H.frz) (.str i t)
theorem Back.boolB (H : Here L g s) {b : Bool} (h : Back C L s g (.bool b) Q) : Q (.bool b) s := h _ _ g (.refl H.frz) (.bool b)
theorem Back.pushL (H : Here L g s) {vs : List Value} {l : List V} {n : Nat} {tk : Nat} (r : Reps C g vs l) (h : Back C L s g (.list l) Q) : Q (.ref s.heap.objs.size) { s with heap := s.heap.push (lstObj vs n), toks := tk } := by
  have e := Ext.push (L := L) (tk := tk) (o := lstObj vs n) H.frz H.gL H.lt rfl
  exact h _ _ _ e (.list (PH.put_self ..) (r.mono e.le))
theorem Back.pushT (H : Here L g s) {vs : List Value} {l : List V} {n : Nat} {tk : Nat} (r : Reps C g vs l) (h : Back C L s g (.tup l) Q) : Q (.ref s.heap.objs.size) { s with heap := s.heap.push (tupObj vs n), toks := tk } := by
  have e := Ext.push (L := L) (tk := tk) (o := tupObj vs n) H.frz H.gL H.lt rfl
  exact h _ _ _ e (.tup (PH.put_self ..) (r.mono e.le))
variable {v : Value} {P : Value → Prop}
@[elab_as_elim] theorem Rep.intE {i : Int} (r : Rep C g v (.int i)) (h : ∀ t, P (.int i t)) : P v := r.elim fun t e => e ▸ h t
@[elab_as_elim] theorem Rep.strE {i : Str} (r : Rep C g v (.str i)) (h : ∀ t, P (.str i t)) : P v := r.elim fun t e => e ▸ h t
@[elab_as_elim] theorem Rep.boolE {i : Bool} (r : Rep C g v (.bool i)) (h : P (.bool i)) : P v := (r : v = .bool i) ▸ h
@[elab_as_elim] theorem Rep.noneE (r : Rep C g v .none) (h : P .none) : P v := (r : v = .none) ▸ h
@[elab_as_elim] theorem Rep.listE {l : List V} (r : Rep C g v (.list l)) (hf : PH.Sub g s.heap) (h : ∀ a vs n, g a = some (lstObj vs n) → s.heap.get? a = some (lstObj vs n) → Reps C g vs l → P (.ref a)) : P v :=
  r.elim fun a r => r.elim fun vs r => r.elim fun n r => r.1 ▸ h a vs n r.2.1 (hf _ _ r.2.1) r.2.2
@[elab_as_elim] theorem Rep.tupE {l : List V} (r : Rep C g v (.tup l)) (hf : PH.Sub g s.heap) (h : ∀ a vs n, g a = some (tupObj vs n) → s.heap.get? a = some (tupObj vs n) → Reps C g vs l → P (.ref a)) : P v :=
  r.elim fun a r => r.elim fun vs r => r.elim fun n r => r.1 ▸ h a vs n r.2.1 (hf _ _ r.2.1) r.2.2
theorem Rep.list_inv {v : Value} {l : List V} (r : Rep C g v (.list l)) (hf : PH.Sub g s.heap) : ∃ a vs n, v = .ref a ∧ g a = some (lstObj vs n) ∧ s.heap.get? a = some (lstObj vs n) ∧ Reps C g vs l :=
  r.elim fun a r => r.elim fun vs r => r.elim fun n r => ⟨a, vs, n, r.1, r.2.1, hf _ _ r.2.1, r.2.2⟩
theorem Rep.tup_inv {v : Value} {l : List V} (r : Rep C g v (.tup l)) (hf : PH.Sub g s.heap) : ∃ a vs n, v = .ref a ∧ g a = some (tupObj vs n) ∧ s.heap.get? a = some (tupObj vs n) ∧ Reps C g vs l :=
  r.elim fun a r => r.elim fun vs r => r.elim fun n r => ⟨a, vs, n, r.1, r.2.1, hf _ _ r.2.1, r.2.2⟩
theorem lst_is {h : Heap} {a : Addr} {vs : List Value} {n : Nat} (e : h.get? a = some (lstObj vs n)) : h.IsList a vs.toArray := ⟨_, e, rfl, n, rfl⟩
theorem tup_is {h : Heap} {a : Addr} {vs : List Value} {n : Nat} (e : h.get? a = some (tupObj vs n)) : IsTup h a vs.toArray := ⟨_, e, rfl, n, rfl⟩
theorem size_ok {n : Nat} (h : n ≤ 1048576) : n ≤ sizeLine := by rw [sizeLine_eq]; exact Nat.le_trans h (by decide)

theorem intBits_le_64' {k : Int} (h : k.natAbs < 2 ^ 62) : Builtin.Int.intBits k ≤ 64 := PySem.intBits_le_64 (by omega) (by omega)

theorem cat_lists {l b : Addr} {vs ws : List Value} {n1 n2 : Nat} (hl : s.heap.get? l = some (lstObj vs n1)) (hb : s.heap.get? b = some (lstObj ws n2)) (hsz : vs.length + ws.length ≤ 1048576)
    (h : Q (.ref s.heap.objs.size) { s with heap := s.heap.push (lstObj (vs ++ ws) 0) }) : wpAny (model prog w) A (binaryOp .Add (.ref l) (.ref b)) Q E s :=
  concat_meets ⟨_, hl, rfl⟩ ⟨_, hb, rfl⟩ noFill_list_add seq_list_add PySem.F.slot_list_add PySem.F.entry_list_add (PySem.F.args_list_add_2 _ _) (list_addW l b vs.toArray ws.toArray n1 n2 none none #[] #[] (size_ok hsz)) ⟨hl, hb, (List.append_toArray vs ws).symm ▸ h⟩

theorem rep_list {l : Addr} {vs : List Value} {n : Nat} {x : Int} {u : Tok} (H : Here L g s) (hl : s.heap.get? l = some (lstObj vs n)) (h0 : vs.length ≤ 16) (h1 : x ≤ 65536) (h2 : -65536 ≤ x) {ds : List V} (r : Reps C g vs ds)
    (h : Back C L s g (.list (List.replicate x.toNat ds).flatten) Q) : wpAny (model prog w) A (binaryOp .Mult (.ref l) (.int x u)) Q E s := by
  obtain ⟨m, hm⟩ := H.ns
  have hx : vs.length * x.toNat ≤ 2 ^ 24 := Nat.le_trans (Nat.mul_le_mul h0 (show x.toNat ≤ 65536 by omega)) (by decide)
  refine mul_list (fr_all hm) (news_all s.heap L) hl (by omega) (by omega) (by simpa using hx) fun h' F' N' => ?_
  have e0 : (List.foldl (fun x1 x2 : Array Value => x1 ++ x2) #[] (List.replicate (if vs.toArray.isEmpty = true then 0 else x.toNat) vs.toArray)) = (List.replicate x.toNat vs).flatten.toArray := by
    have key : ∀ (k : Nat) (a : Array Value), List.foldl (fun x1 x2 : Array Value => x1 ++ x2) a (List.replicate k vs.toArray) = a ++ (List.replicate k vs).flatten.toArray := by
      intro k
      induction k with
      | zero => intro a; simp
      | succ k ih => intro a; rw [List.replicate_succ, List.foldl_cons, ih, List.replicate_succ, List.flatten_cons]; simp
    rw [key]
    cases vs with
    | nil => simp
    | cons v vs => simp
  rw [e0] at N'
  have hk := kept_all N' (fun p hp => List.mem_cons_of_mem _ hp)
  have hD := (N' _ (List.mem_cons_self ..)).1
  have hne := (N' _ (List.mem_cons_self ..)).2.1
  have hfl : ∀ k : Nat, Reps C g (List.replicate k vs).flatten (List.replicate k ds).flatten := by
    intro k
    induction k with
    | zero => exact .nil
    | succ k ih => rw [List.replicate_succ, List.replicate_succ, List.flatten_cons, List.flatten_cons]; exact r.append ih
  have e := Ext.add (tk := s.toks) (L := L) H.frz H.gL hk (ns_all hm F') hne (by
    cases e : s.heap.get? s.heap.objs.size with
    | none => rfl
    | some o' => exact absurd (Heap.lt_size e) (Nat.lt_irrefl _)) hD
  exact h _ _ _ e (.list (n := 0) (PH.put_self ..) ((hfl _).mono e.le))

theorem bin_add {a b r : V} {va vb : Value} (H : Here L g s) (ra : Rep C g va a) (rb : Rep C g vb b) (hr : addV a b = some r) (h : Back C L s g r Q) : wpAny (model prog w) A (binaryOp .Add va vb) Q E s := by
  cases a with
  | int x =>
    obtain ⟨y, rfl, hr⟩ := onInt_inv (k := fun y => some (V.int (x + y))) hr
    cases Option.some.inj hr
    exact ra.intE fun t => rb.intE fun u => add_int (Back.tokI H h)
  | str x =>
    obtain ⟨y, rfl, hr⟩ := onStr_inv (k := fun y => if x.length + y.length ≤ 1048576 then some (V.str (x ++ y)) else none) hr
    obtain ⟨hb, rfl⟩ := ite_some hr
    exact ra.strE fun t => rb.strE fun u => add_str (fun t' tk => Back.tokS H h) (size_ok hb)
  | list x =>
    obtain ⟨y, rfl, hr⟩ := onList_inv (k := fun y => if x.length + y.length ≤ 1048576 then some (V.list (x ++ y)) else none) hr
    obtain ⟨hb, rfl⟩ := ite_some hr
    exact ra.listE H.frz fun p vs n1 _ hx rx => rb.listE H.frz fun q ws n2 _ hy ry => cat_lists hx hy (rx.length ▸ ry.length ▸ hb) (Back.pushL H (rx.append ry) h)
  | _ => exact nomatch (show none = some r from hr)
theorem bin_mul {a b r : V} {va vb : Value} (H : Here L g s) (ra : Rep C g va a) (rb : Rep C g vb b) (hr : mulV a b = some r) (h : Back C L s g r Q) : wpAny (model prog w) A (binaryOp .Mult va vb) Q E s := by
  cases a with
  | int x =>
    obtain ⟨y, rfl, hr⟩ := onInt_inv (k := fun y => if x.natAbs < 2 ^ 62 then some (V.int (x * y)) else none) hr
    obtain ⟨hb, rfl⟩ := ite_some hr
    exact ra.intE fun t => rb.intE fun u => mul_int (Back.tokI H h) (IntMulOk.of_left (intBits_le_64' hb))
  | str x =>
    obtain ⟨y, rfl, hr⟩ := onInt_inv (k := fun n => if 0 ≤ n ∧ n ≤ 16 ∧ x.length ≤ 16 then some (V.str (Txt.mul x n)) else none) hr
    obtain ⟨hb, rfl⟩ := ite_some hr
    exact ra.strE fun t => rb.intE fun u => PySem.SB.mul (mulOk_of 16 16 hb.2.2 hb.2.1 (by omega) (by decide) (by decide)) fun t' k => Back.tokS H h
  | list x =>
    obtain ⟨y, rfl, hr⟩ := onInt_inv (k := fun n => if x.length ≤ 16 ∧ n ≤ 65536 ∧ -65536 ≤ n then some (V.list (List.replicate n.toNat x).flatten) else none) hr
    obtain ⟨hb, rfl⟩ := ite_some hr
    exact ra.listE H.frz fun p vs n1 _ hx rx => rb.intE fun u => rep_list H hx (rx.length ▸ hb.1) hb.2.1 hb.2.2 rx h
  | _ => exact nomatch (show none = some r from hr)
theorem on_ints {a b r : V} {k : Int → Int → Option V} (hr : (onInt a fun a => onInt b fun b => k a b) = some r) : ∃ x y, a = .int x ∧ b = .int y ∧ k x y = some r := by
  obtain ⟨x, rfl, hr⟩ := onInt_inv hr
  obtain ⟨y, rfl, hr⟩ := onInt_inv (k := fun b => k x b) hr
  exact ⟨x, y, rfl, rfl, hr⟩
theorem bin_sound {op : Operator} {a b r : V} {va vb : Value} (H : Here L g s) (ra : Rep C g va a) (rb : Rep C g vb b) (hr : binV op a b = some r) (h : Back C L s g r Q) : wpAny (model prog w) A (binaryOp op va vb) Q E s := by
  cases op with
  | Add => exact bin_add H ra rb hr h
  | Mult => exact bin_mul H ra rb hr h
  | Sub =>
    obtain ⟨x, y, rfl, rfl, hr⟩ := on_ints (k := fun a b => some (.int (a - b))) hr
    cases Option.some.inj hr
    exact ra.intE fun t => rb.intE fun u => sub_int (Back.tokI H h)
  | FloorDiv =>
    obtain ⟨x, y, rfl, rfl, hr⟩ := on_ints (k := fun a b => if b ≠ 0 ∧ b.natAbs < 1073741824 then some (.int (a.fdiv b)) else none) hr
    obtain ⟨hb, rfl⟩ := ite_some hr
    exact ra.intE fun t => rb.intE fun u => floordiv_int hb.1 (Back.tokI H h) (.inl (PyProof.noPylong_small hb.2))
  | Mod =>
    obtain ⟨x, y, rfl, rfl, hr⟩ := on_ints (k := fun a b => if b ≠ 0 then some (.int (a.fmod b)) else none) hr
    obtain ⟨hb, rfl⟩ := ite_some hr
    exact ra.intE fun t => rb.intE fun u => mod_int' hb (Back.tokI H h)
  | Pow =>
    obtain ⟨x, y, rfl, rfl, hr⟩ := on_ints (k := fun a b => if 0 ≤ b ∧ b ≤ 1000000 ∧ a.natAbs < 2 ^ 64 then some (.int (a ^ b.toNat)) else none) hr
    obtain ⟨hb, rfl⟩ := ite_some hr
    exact ra.intE fun t => rb.intE fun u => pow_int_small hb.1 hb.2.1 hb.2.2 (Back.tokI H h)
  | _ => exact nomatch (show none = some r from hr)
end

mutual
noncomputable def toPy : V → PyData
  | .int i => .int i
  | .list l => .list (toPys l)
  | .tup l => .tuple (toPys l)
  | _ => .none
noncomputable def toPys : List V → List PyData
  | [] => []
  | v :: r => toPy v :: toPys r
end
theorem plain_all {n : Nat} {l : List V} : V.plain (n + 1) (.list l) = true ↔ ∀ v ∈ l, V.plain n v = true := List.all_eq_true
theorem plain_allT {n : Nat} {l : List V} : V.plain (n + 1) (.tup l) = true ↔ ∀ v ∈ l, V.plain n v = true := List.all_eq_true
@[elab_as_elim] theorem plainC {P : Nat → V → Prop} {n : Nat} {d : V} (h : V.plain n d = true) (i : ∀ n x, P n (.int x)) (l : ∀ n l, (∀ v ∈ l, V.plain n v = true) → P (n + 1) (.list l)) (t : ∀ n l, (∀ v ∈ l, V.plain n v = true) → P (n + 1) (.tup l)) : P n d := by
  cases n with
  | zero => cases d <;> first | exact i _ _ | exact nomatch h
  | succ n => cases d <;> first | exact i _ _ | exact l _ _ (plain_all.mp h) | exact t _ _ (plain_allT.mp h) | exact nomatch h
theorem plainR {P : Nat → V → Prop} (i : ∀ n x, P n (.int x)) (l : ∀ n l, (∀ v ∈ l, V.plain n v = true) → (∀ v ∈ l, P n v) → P (n + 1) (.list l)) (t : ∀ n l, (∀ v ∈ l, V.plain n v = true) → (∀ v ∈ l, P n v) → P (n + 1) (.tup l)) (n : Nat) : ∀ d, V.plain n d = true → P n d :=
  Nat.rec (fun d h => plainC (P := fun n d => n = 0 → P n d) h (fun _ _ _ => i _ _) (fun _ _ _ e => nomatch e) (fun _ _ _ e => nomatch e) rfl)
    (fun n ih d h => plainC (P := fun m d => m = n + 1 → P m d) h (fun _ _ _ => i _ _) (fun _ _ h e => Nat.succ.inj e ▸ l _ _ (Nat.succ.inj e ▸ h) fun v hv => ih v (Nat.succ.inj e ▸ h v hv)) (fun _ _ h e => Nat.succ.inj e ▸ t _ _ (Nat.succ.inj e ▸ h) fun v hv => ih v (Nat.succ.inj e ▸ h v hv)) rfl) n
section
variable {C : Addr} {g : PH} {h : Heap}
theorem reads_all : ∀ {ds : List V} {vs : List Value}, (∀ d ∈ ds, ∀ v, Rep C g v d → ∃ as, Reads h v (toPy d) as) → Reps C g vs ds → ∃ as, ReadsAll h vs (toPys ds) as
  | [], _, _, r => (show _ = [] from r) ▸ ⟨_, .nil⟩
  | d :: ds, _, ih, r => by
    obtain ⟨v, vs, rfl, r, rs⟩ := r
    obtain ⟨as, q⟩ := ih _ (.head _) _ r
    obtain ⟨bs, p⟩ := reads_all (fun d hd => ih d (.tail _ hd)) rs
    exact ⟨_, .cons q p⟩
theorem reads_of (hf : PH.Sub g h) (n : Nat) {v : Value} {d : V} (r : Rep C g v d) (hp : V.plain n d = true) : ∃ as, Reads h v (toPy d) as :=
  plainR (P := fun _ d => ∀ v, Rep C g v d → ∃ as, Reads h v (toPy d) as) (fun _ _ _ r => r.intE fun _ => ⟨_, .int _ _⟩)
    (fun _ _ _ ih _ r => r.elim fun _ r => r.elim fun _ r => r.elim fun _ r => (reads_all ih r.2.2).elim fun _ q => r.1 ▸ ⟨_, reads_list_at (hf _ _ r.2.1) rfl rfl q⟩)
    (fun _ _ _ ih _ r => r.elim fun _ r => r.elim fun _ r => r.elim fun _ r => (reads_all ih r.2.2).elim fun _ q => r.1 ▸ ⟨_, reads_tuple_at (hf _ _ r.2.1) rfl rfl q⟩) n d hp v r
theorem lay_all {n : Nat} : ∀ ds : List V, (∀ d ∈ ds, (toPy d).canLay0 = true ∧ (toPy d).depth ≤ n) → PyData.canLayAll0 (toPys ds) = true ∧ PyData.depthAll (toPys ds) ≤ n
  | [], _ => ⟨rfl, Nat.zero_le _⟩
  | d :: ds, h => have h1 := h d (.head _); have h2 := lay_all ds fun e he => h e (.tail _ he); ⟨Bool.and_eq_true_iff.mpr ⟨h1.1, h2.1⟩, Nat.max_le.mpr ⟨h1.2, h2.2⟩⟩
theorem lay_of (n : Nat) (d : V) (hp : V.plain n d = true) : (toPy d).canLay0 = true ∧ (toPy d).depth ≤ n :=
  plainR (P := fun n d => (toPy d).canLay0 = true ∧ (toPy d).depth ≤ n) (fun _ _ => ⟨rfl, Nat.zero_le _⟩) (fun _ l _ ih => have q := lay_all l ih; ⟨q.1, Nat.succ_le_succ q.2⟩) (fun _ l _ ih => have q := lay_all l ih; ⟨q.1, Nat.succ_le_succ q.2⟩) n d hp
theorem eqv_all {n : Nat} : ∀ ds es : List V, (∀ d ∈ ds, ∀ e, V.plain n e = true → (PyData.eqv (toPy d) (toPy e) = true ↔ d = e)) → (∀ d ∈ es, V.plain n d = true) → (PyData.eqvAll (toPys ds) (toPys es) = true ↔ ds = es)
  | [], [], _, _ => ⟨fun _ => rfl, fun _ => rfl⟩
  | [], _ :: _, _, _ => ⟨nofun, nofun⟩
  | _ :: _, [], _, _ => ⟨nofun, nofun⟩
  | d :: ds, e :: es, h1, h2 => by
    have q2 := eqv_all ds es (fun x hx => h1 x (.tail _ hx)) fun x hx => h2 x (.tail _ hx)
    exact Bool.and_eq_true_iff.trans ((and_congr (h1 d (.head _) e (h2 e (.head _))) q2).trans List.cons_eq_cons.symm)
theorem eqv_of (n : Nat) (d e : V) (h1 : V.plain n d = true) (h2 : V.plain n e = true) : PyData.eqv (toPy d) (toPy e) = true ↔ d = e :=
  plainR (P := fun n d => ∀ e, V.plain n e = true → (PyData.eqv (toPy d) (toPy e) = true ↔ d = e))
    (fun _ x e h => plainC (P := fun _ e => (PyData.eqv (toPy (.int x)) (toPy e) = true ↔ V.int x = e)) h (fun _ y => beq_iff_eq.trans ⟨congrArg _, V.int.inj⟩) (fun _ _ _ => ⟨nofun, nofun⟩) (fun _ _ _ => ⟨nofun, nofun⟩))
    (fun n l _ ih e h => plainC (P := fun m e => m = n + 1 → (PyData.eqv (toPy (.list l)) (toPy e) = true ↔ V.list l = e)) h (fun _ _ _ => ⟨nofun, nofun⟩) (fun _ m h e => (eqv_all l m ih (Nat.succ.inj e ▸ h)).trans ⟨congrArg _, V.list.inj⟩) (fun _ _ _ _ => ⟨nofun, nofun⟩) rfl)
    (fun n l _ ih e h => plainC (P := fun m e => m = n + 1 → (PyData.eqv (toPy (.tup l)) (toPy e) = true ↔ V.tup l = e)) h (fun _ _ _ => ⟨nofun, nofun⟩) (fun _ _ _ _ => ⟨nofun, nofun⟩) (fun _ m h e => (eqv_all l m ih (Nat.succ.inj e ▸ h)).trans ⟨congrArg _, V.tup.inj⟩) rfl) n d h1 e h2
end
theorem shaped_of {n : Nat} {d : V} (h : V.plain n d = true) (hn : n ≤ 8) : SeqAt.shaped (toPy d) = true := by
  have la := lay_of n d h
  unfold SeqAt.shaped
  rw [la.1, Bool.true_and]
  exact decide_eq_true (Nat.le_trans la.2 (Nat.le_trans hn (by decide)))

section
variable {prog : Program} {w : World} {A : Around} {E : Value → Shared → Prop} {s : Shared} {L C : Addr} {g : PH} {Q : Value → Shared → Prop}
theorem p_ints {a b : V} {k : Int → Int → Prop} (hr : pInt a fun a => pInt b fun b => k a b) : ∃ x y, a = .int x ∧ b = .int y ∧ k x y := by
  obtain ⟨x, rfl, hr⟩ := pInt_inv hr
  obtain ⟨y, rfl, hr⟩ := pInt_inv (k := fun b => k x b) hr
  exact ⟨x, y, rfl, rfl, hr⟩
theorem cmp_data {l1 l2 : List V} {va vb : Value} {r : Bool} (H : Here L g s) (ra : Rep C g va (.list l1)) (rb : Rep C g vb (.list l2)) (h1 : V.plain 4 (.list l1) = true) (h2 : V.plain 4 (.list l2) = true) {P : Prop}
    (h : ∀ as bs, Reads s.heap va (toPy (.list l1)) as → Reads s.heap vb (toPy (.list l2)) bs → SeqAt.shaped (toPy (.list l1)) = true → SeqAt.shaped (toPy (.list l2)) = true → ((toPy (.list l1)).eqv (toPy (.list l2)) = true ↔ l1 = l2) → P) : P :=
  (reads_of H.frz 4 ra h1).elim fun as q1 => (reads_of H.frz 4 rb h2).elim fun bs q2 => h as bs q1 q2 (shaped_of h1 (by decide)) (shaped_of h2 (by decide)) ((eqv_of 4 _ _ h1 h2).trans ⟨V.list.inj, congrArg _⟩)
theorem cmp_eq {a b : V} {va vb : Value} {r : Bool} (H : Here L g s) (hu : A.units + 64 < cLine) (ra : Rep C g va a) (rb : Rep C g vb b) (hr : cmpV .Eq a b r) (h : Back C L s g (.bool r) Q) : wpAny (model prog w) A (compareOp .Eq va vb) Q E s := by
  cases a with
  | int x =>
    obtain ⟨y, rfl, rfl⟩ := pInt_inv (k := fun y => r = (x == y)) hr
    exact ra.intE fun t => rb.intE fun u => eq_int (Back.boolB H h)
  | str x =>
    obtain ⟨y, rfl, rfl⟩ := pStr_inv (k := fun y => r = (x == y)) hr
    exact ra.strE fun t => rb.strE fun u => eq_str (Back.boolB H h)
  | bool x =>
    obtain ⟨y, rfl, rfl⟩ := pBool_inv (k := fun y => r = (x == y)) hr
    exact ra.boolE (rb.boolE (eq_bool (Back.boolB H h)))
  | list x =>
    obtain ⟨y, rfl, h1, h2, h3⟩ := pList_inv (k := fun y => V.plain 4 (.list x) = true ∧ V.plain 4 (.list y) = true ∧ (r = true ↔ x = y)) hr
    exact cmp_data (r := r) H ra rb h1 h2 fun as bs q1 q2 s1 s2 e => eq_dataH q1 q2 s1 s2 hu ((Bool.eq_iff_iff.mpr (e.trans h3.symm) : _ = r) ▸ Back.boolB H h)
  | _ => exact (show False from hr).elim
theorem cmp_ne {a b : V} {va vb : Value} {r : Bool} (H : Here L g s) (hu : A.units + 64 < cLine) (ra : Rep C g va a) (rb : Rep C g vb b) (hr : cmpV .NotEq a b r) (h : Back C L s g (.bool r) Q) : wpAny (model prog w) A (compareOp .NotEq va vb) Q E s := by
  cases a with
  | int x =>
    obtain ⟨y, rfl, rfl⟩ := pInt_inv (k := fun y => r = (x != y)) hr
    exact ra.intE fun t => rb.intE fun u => ne_int (Back.boolB H h)
  | list x =>
    obtain ⟨y, rfl, h1, h2, h3⟩ := pList_inv (k := fun y => V.plain 4 (.list x) = true ∧ V.plain 4 (.list y) = true ∧ (r = true ↔ x ≠ y)) hr
    refine cmp_data (r := r) H ra rb h1 h2 fun as bs q1 q2 s1 s2 e => ne_dataH q1 q2 s1 s2 hu ?_
    have : (!(toPy (.list x)).eqv (toPy (.list y))) = r := by rw [Bool.eq_iff_iff, h3, Bool.not_eq_true', ← Bool.not_eq_true, e]
    exact this ▸ Back.boolB H h
  | _ => exact (show False from hr).elim
theorem cmp_is {a b : V} {va vb : Value} {r : Bool} (H : Here L g s) (ra : Rep C g va a) (rb : Rep C g vb b) (hr : cmpV .Is a b r) (h : Back C L s g (.bool r) Q) : wpAny (model prog w) A (compareOp .Is va vb) Q E s := by
  cases a with
  | none =>
    obtain ⟨rfl, rfl⟩ := pNone_inv (k := r = true) hr
    exact ra.noneE (rb.noneE (is_none_none (Back.boolB H h)))
  | int x =>
    obtain ⟨rfl, rfl⟩ := pNone_inv (k := r = false) hr
    exact ra.intE fun t => rb.noneE (is_int_none (Back.boolB H h))
  | bool x =>
    obtain ⟨y, rfl, rfl⟩ := pBool_inv (k := fun y => r = (x == y)) hr
    exact ra.boolE (rb.boolE (is_bool (Back.boolB H h)))
  | _ => exact (show False from hr).elim
theorem cmp_sound {op : CmpOp} {a b : V} {va vb : Value} (H : Here L g s) (hu : A.units + 64 < cLine) (ra : Rep C g va a) (rb : Rep C g vb b) (hr : ∃ r, cmpV op a b r) (h : ∀ r, cmpV op a b r → Back C L s g (.bool r) Q) :
    wpAny (model prog w) A (compareOp op va vb) Q E s := by
  obtain ⟨r, hr⟩ := hr
  replace h := h r hr
  cases op with
  | Eq => exact cmp_eq H hu ra rb hr h
  | NotEq => exact cmp_ne H hu ra rb hr h
  | Is => exact cmp_is H ra rb hr h
  | Lt =>
    obtain ⟨x, y, rfl, rfl, rfl⟩ := p_ints (k := fun a b => r = decide (a < b)) hr
    exact ra.intE fun t => rb.intE fun u => lt_int (Back.boolB H h)
  | LtE =>
    obtain ⟨x, y, rfl, rfl, rfl⟩ := p_ints (k := fun a b => r = decide (a ≤ b)) hr
    exact ra.intE fun t => rb.intE fun u => le_int (Back.boolB H h)
  | Gt =>
    obtain ⟨x, y, rfl, rfl, rfl⟩ := p_ints (k := fun a b => r = decide (b < a)) hr
    exact ra.intE fun t => rb.intE fun u => gt_int (Back.boolB H h)
  | GtE =>
    obtain ⟨x, y, rfl, rfl, rfl⟩ := p_ints (k := fun a b => r = decide (b ≤ a)) hr
    exact ra.intE fun t => rb.intE fun u => ge_int (Back.boolB H h)
  | IsNot =>
    obtain ⟨x, rfl, hr⟩ := pBool_inv hr
    obtain ⟨y, rfl, rfl⟩ := pBool_inv (k := fun y => r = (x != y)) hr
    have e : (!(Value.bool x == Value.bool y)) = (x != y) := by cases x <;> cases y <;> rfl
    exact ra.boolE (rb.boolE (wpAny_isNot_plain rfl (e ▸ Back.boolB H h)))
  | NotIn =>
    obtain ⟨y, rfl, hr⟩ := pStr_inv hr
    obtain ⟨x, rfl, rfl⟩ := pStr_inv (k := fun x => r = (Builtin.Str.occurrences x y 0 x.length 1).isEmpty) hr
    exact ra.strE fun t => rb.strE fun u => notIn_str (by rw [Bool.not_not]; exact Back.boolB H h)
  | _ => exact (show False from hr).elim
end
end Mine

-- part 6
namespace Mine

structure EnvOk (sc : Scope) (env : Env) : Prop where
  kind : env.scope.kind = .function
  glob : env.globals = mainGlobals
  blt : env.builtins = builtinsNs
  names : ∀ x k, sc.names.lookup x = some k → env.kindOf x = some k ∨ (k = .free ∧ env.kindOf x = some .cell)

structure AOk (n : Nat) (A : Around) : Prop where
  handled : A.handled = none
  depth : A.depth + n < recursionLimit
  units : A.units + 100 * n + 200 < cLine

structure BaseF (B : Heap) (mg mb : Str → Option Value) : Prop where
  g : B.Ns mainGlobals mg
  b : B.Ns builtinsNs mb
  nolimit : B.NoLimit
  builtins : ∀ x : Str, x ≠ "__name__" → mb x = bootBuiltins x
  free : ∀ x : Str, x ∈ bltNames → mg x = none

noncomputable def Contract (prog : Program) (w : World) (B : Heap) (C : Addr) (n : Nat) (f : Addr) (vs : List V) (r : V) : Prop :=
  ∀ (A : Around) (s : Shared) (g : PH) (L : Addr) (E : Value → Shared → Prop) (Q : Value → Shared → Prop) (cvs : List Value), AOk n A → PH.Sub (ofHeap B) s.heap → Here L g s → Reps C g cvs vs →
    Back C L s g r Q → wpAny (model prog w) A (call (.ref f) cvs) Q E s
noncomputable def Callee (prog : Program) (w : World) (B : Heap) (f : Addr) : Prop :=
  ∀ (A : Around) (s : Shared) (E : Value → Shared → Prop) (Q : Value → Shared → Prop) (pos : Pos) (first : List Value) (args : List (Bool × Sem Value)),
    wpAny (model prog w) A (evalArgs (.ref f) true args []) (fun x s₁ => PH.Sub (ofHeap B) s₁.heap ∧ wpAny (model prog w) A (call (.ref f) (first ++ x.pos) x.kw) Q E s₁) E s → wpAny (model prog w) A (callWith pos (.ref f) first args []) Q E s

noncomputable def MethodAt (prog : Program) (w : World) (B : Heap) (C : Addr) (m : Str) (f : Addr) : Prop :=
  ∀ (A : Around) (s : Shared) (g : PH) (L : Addr) (E : Value → Shared → Prop) (Q : Value × List Value → Shared → Prop) (cv : Value) (n nt : Int) (c : List Int) (b : Int) (sm : Bool) (pl : Sem Bool),
    PH.Sub (ofHeap B) s.heap → Here L g s → Rep C g cv (.ws n nt c b sm) → (∀ tk, Q (.ref f, [cv]) { s with toks := tk }) → wpAny (model prog w) A (getMethod cv m pl) Q E s
noncomputable def AttrOk (prog : Program) (w : World) (B : Heap) (C : Addr) : Prop :=
  ∀ (A : Around) (s : Shared) (g : PH) (L : Addr) (E : Value → Shared → Prop) (Q : Value → Shared → Prop) (cv : Value) (va : V) (i : Nat) (r : V),
    PH.Sub (ofHeap B) s.heap → Here L g s → Rep C g cv va → attrV va i = some r → Back C L s g r Q → wpAny (model prog w) A (getAttr cv (attrName i) true) Q E s

structure Snd (prog : Program) (w : World) (B : Heap) (C : Addr) (mg mb : Str → Option Value) (n : Nat) (Sp : Nat → List V → V → Prop) : Prop where
  base : BaseF B mg mb
  fn : ∀ f i, glo.fn.lookup f = some i → ∃ a, mg f = some (.ref a) ∧ Callee prog w B a ∧ ∀ vs r, Sp i vs r → Contract prog w B C n a vs r
  me : ∀ m i, glo.me.lookup m = some i → ∃ a, MethodAt prog w B C m a ∧ Callee prog w B a ∧ ∀ vs r, Sp i vs r → Contract prog w B C n a vs r
  attr : AttrOk prog w B C

inductive Post (cx : Cx) (K g₀ : PH) (s₀ : Shared) (val : Nat → Value) (g : PH) (Q : V → List Slot → Prop) (v : Value) (s' : Shared) : Prop
  | mk (d : V) (ρ' : List Slot) (g' : PH) (hq : Q d ρ') (I : Inv cx K g₀ s₀ val ρ' g' s') (l : PH.le g g') (r : Rep cx.C g' v d) : Post cx K g₀ s₀ val g Q v s'
inductive PostL (cx : Cx) (K g₀ : PH) (s₀ : Shared) (val : Nat → Value) (g : PH) (Q : List V → List Slot → Prop) (vs : List Value) (s' : Shared) : Prop
  | mk (d : List V) (ρ' : List Slot) (g' : PH) (hq : Q d ρ') (I : Inv cx K g₀ s₀ val ρ' g' s') (l : PH.le g g') (r : Reps cx.C g' vs d) : PostL cx K g₀ s₀ val g Q vs s'

section
variable {prog : Program} {w : World} {B : Heap} {C : Addr} {mg mb : Str → Option Value} {n : Nat} {Sp : Nat → List V → V → Prop}
structure At (B : Heap) (C : Addr) (n : Nat) (sc : Scope) (cx : Cx) (K : PH) (A : Around) : Prop where
  env : EnvOk sc cx.env
  cls : cx.C = C
  a : AOk n A
  sub : PH.le (ofHeap B) K
  nd : cx.vars.Nodup
  own : ∀ x, sc.names.lookup x = some .cell → ∃ c, cx.env.cells.lookup x = some c ∧ c ∈ cx.P ∧ c ≠ cx.env.locals
  has : ∀ x, sc.names.lookup x = some .free → ∃ c, cx.env.cells.lookup x = some c ∧ c ≠ cx.env.locals
  inj : ∀ x y c, cx.env.cells.lookup x = some c → cx.env.cells.lookup y = some c → x = y
  lives : ∀ x c, cx.env.cells.lookup x = some c → c ∈ cx.P ∨ ∃ o, K c = some o

noncomputable def SndE (prog : Program) (w : World) (B : Heap) (C : Addr) (n : Nat) (Sp : Nat → List V → V → Prop) (c : CE) : Prop :=
  ∀ (sc : Scope) (cx : Cx) (K g₀ : PH) (s₀ : Shared) (val : Nat → Value) (ρ : List Slot) (g : PH) (s : Shared) (A : Around) (E : Value → Shared → Prop) (Q : V → List Slot → Prop) (e : Expr),
    chkE glo sc cx.vars false c e = true → At B C n sc cx K A → Inv cx K g₀ s₀ val ρ g s → wpE Sp c ρ Q → wpAny (model prog w) A (eval e cx.env) (Post cx K g₀ s₀ val g Q) E s
noncomputable def SndL (prog : Program) (w : World) (B : Heap) (C : Addr) (n : Nat) (Sp : Nat → List V → V → Prop) : List CE → Prop
  | [] => True
  | c :: r => SndE prog w B C n Sp c ∧ SndL prog w B C n Sp r
noncomputable def SndO (prog : Program) (w : World) (B : Heap) (C : Addr) (n : Nat) (Sp : Nat → List V → V → Prop) : Option CE → Prop
  | none => True
  | some c => SndE prog w B C n Sp c

variable {cx : Cx} {K g₀ g : PH} {s₀ s : Shared} {val : Nat → Value} {ρ : List Slot} {A : Around} {E : Value → Shared → Prop} {Q : V → List Slot → Prop} {sc : Scope}

theorem Post.mono {g g' : PH} {v : Value} {s : Shared} (hg : PH.le g g') (h : Post cx K g₀ s₀ val g' Q v s) : Post cx K g₀ s₀ val g Q v s :=
  let ⟨d, r, g₂, q, i, l, p⟩ := h; ⟨d, r, g₂, q, i, hg.trans l, p⟩
theorem back_post {r : V} (I : Inv cx K g₀ s₀ val ρ g s) (h : Q r ρ) : Back cx.C cx.env.locals s g r (Post cx K g₀ s₀ val g Q) :=
  fun v s' g' e p => ⟨r, ρ, g', h, I.ext e, e.le, p⟩
theorem back_post' {r : V} {g₁ : PH} (I : Inv cx K g₀ s₀ val ρ g₁ s) (hg : PH.le g g₁) (h : Q r ρ) : Back cx.C cx.env.locals s g₁ r (Post cx K g₀ s₀ val g Q) :=
  fun v s' g' e p => ⟨r, ρ, g', h, I.ext e, hg.trans e.le, p⟩

theorem or_t {a b : Bool} (h : (a || b) = true) : a = true ∨ b = true := Bool.or_eq_true_iff.mp h
theorem isVar_spec {vars : List Str} {i : Nat} {id : Str} (h : isVar sc vars i id = true) : (sc.names.lookup id = some .local ∨ sc.names.lookup id = some .cell ∨ sc.names.lookup id = some .free) ∧ vars[i]? = some id ∧ (id == ("__debug__" : Str)) = false ∧ (id == ("__classdict__" : Str)) = false :=
  ⟨(or_t (a1 h)).imp eq_t fun h => (or_t h).imp eq_t eq_t, eq_t (a1 (a2 h)), not_t (a1 (a2 (a2 h))), not_t (a2 (a2 (a2 h)))⟩
theorem isVar_at {vars : List Str} {i : Nat} {id : Str} (h : isVar sc vars i id = true) : vars[i]? = some id := eq_t (a1 (a2 h))
theorem At.kind (a : At B C n sc cx K A) {id : Str} {k : NameKind} (h : sc.names.lookup id = some k) (hk : k ≠ .free) : cx.env.kindOf id = some k := (a.env.names _ _ h).elim (fun z => z) fun z => absurd z.1 hk
structure OwnAt (cx : Cx) (K g : PH) (h : Heap) (x : Str) (v : Value) (l : List V) (a : Addr) (vs : List Value) (k : Nat) : Prop where
  ld : Loads cx.env h x v
  val : v = .ref a
  obj : h.get? a = some (lstObj vs k)
  reps : Reps cx.C g vs l
  g : g a = none
  K : K a = none
  P : a ∉ cx.P
theorem SlotOk.ownE {P : Prop} {h : Heap} {x : Str} {v : Value} {l : List V} {sl : Slot} (S : SlotOk cx K g h x v sl) (e : sl = .own l) (f : ∀ a vs k, OwnAt cx K g h x v l a vs k → P) : P := by
  subst e
  obtain ⟨h1, a, vs, hv, ⟨k, h2⟩, h3, h4, h5, h6⟩ := S
  exact f a vs k ⟨h1, hv, h2, h3, h4, h5, h6⟩
theorem OwnAt.ok {h : Heap} {x : Str} {v : Value} {l : List V} {a : Addr} {vs : List Value} {k : Nat} (O : OwnAt cx K g h x v l a vs k) : SlotOk cx K g h x v (.own l) := ⟨O.ld, a, vs, O.val, ⟨k, O.obj⟩, O.reps, O.g, O.K, O.P⟩
theorem Inv.own {i : Nat} {x : Str} {l : List V} (I : Inv cx K g₀ s₀ val ρ g s) (hx : cx.vars[i]? = some x) (hi : ρ.getD i .undef = .own l) {P : Prop} (f : ∀ a vs k, OwnAt cx K g s.heap x (val i) l a vs k → P) : P := (I.slot i x hx).ownE hi f
theorem Inv.fro {i : Nat} {x : Str} {d : V} (I : Inv cx K g₀ s₀ val ρ g s) (hx : cx.vars[i]? = some x) (hi : ρ.getD i .undef = .fro d) : Loads cx.env s.heap x (val i) ∧ Rep cx.C g (val i) d := by
  have S := I.slot i x hx
  rw [hi] at S
  exact S
theorem SlotOk.loads {h : Heap} {x : Str} {v : Value} {sl : Slot} {d : V} (S : SlotOk cx K g h x v sl) (hd : slotV sl = some d) : Loads cx.env h x v := match sl, S with
  | .undef, _ => nomatch hd
  | .fro _, S => S.1
  | .own _, S => S.1
theorem SlotOk.to {g' K' : PH} {h h' : Heap} {x : Str} {v : Value} {sl : Slot} (S : SlotOk cx K g h x v sl) (hl : Loads cx.env h x v → Loads cx.env h' x v) (hf : ∀ d, sl = .fro d → Rep cx.C g v d → Rep cx.C g' v d) (ho : ∀ l, sl = .own l → ∀ a vs k, OwnAt cx K g h x v l a vs k → Reps cx.C g' vs l ∧ (∃ k, h'.get? a = some (lstObj vs k)) ∧ g' a = none ∧ K' a = none) : SlotOk cx K' g' h' x v sl := match sl, S, hf, ho with
  | .undef, _, _, _ => trivial
  | .fro _, S, hf, _ => ⟨hl S.1, hf _ rfl S.2⟩
  | .own _, S, _, ho => S.ownE rfl fun a vs k O => have q := ho _ rfl a vs k O; ⟨hl O.ld, a, vs, O.val, q.2.1, q.1, q.2.2.1, q.2.2.2, O.P⟩

theorem load_var {i : Nat} {id : Str} {d : V} {Q : Value → Shared → Prop} (a : At B C n sc cx K A) (I : Inv cx K g₀ s₀ val ρ g s) (h : isVar sc cx.vars i id = true) (hd : slotV (ρ.getD i .undef) = some d) (hq : Q (val i) s) :
    wpAny (model prog w) A (loadName cx.env id) Q E s := by
  have hl := (I.slot i id (isVar_at h)).loads hd
  rcases (isVar_spec h).1 with k | k | k
  · exact (hl.loc (a.kind k nofun)).elim fun m hm => wpAny_loadName_local a.env.kind (a.kind k nofun) hm.1 hm.2 hq
  · exact (hl.cell (.inl (a.kind k nofun))).elim fun c hc => wpAny_loadName_cell a.env.kind (a.kind k nofun) hc.1 hc.2.2 hq
  · rcases a.env.names _ _ k with z | z
    · exact (hl.cell (.inr z)).elim fun c hc => wpAny_loadName_free a.env.kind z hc.1 hc.2.2 hq (isVar_spec h).2.2.2
    · exact (hl.cell (.inl z.2)).elim fun c hc => wpAny_loadName_cell a.env.kind z.2 hc.1 hc.2.2 hq
theorem name_var {i : Nat} {id : Str} {pos : Pos} {d : V} {Q : Value → Shared → Prop} (a : At B C n sc cx K A) (I : Inv cx K g₀ s₀ val ρ g s) (h : isVar sc cx.vars i id = true) (hd : slotV (ρ.getD i .undef) = some d) (hq : Q (val i) s) :
    wpAny (model prog w) A (eval (.Name id pos) cx.env) Q E s := wpAny_Name (load_var a I h hd hq) (isVar_spec h).2.2.1

theorem getD_set {ρ : List Slot} {i j : Nat} {sl : Slot} (h : i < ρ.length) : (ρ.set i sl).getD j .undef = if j = i then sl else ρ.getD j .undef := by
  rw [List.getD_eq_getElem?_getD, List.getD_eq_getElem?_getD, List.getElem?_set]
  by_cases hj : j = i
  · subst hj; rw [if_pos rfl, if_pos rfl, if_pos h]; rfl
  · rw [if_neg (Ne.symm hj), if_neg hj]
theorem getD_at {ρ : List Slot} {i : Nat} {sl : Slot} (h : i < ρ.length) : (ρ.set i sl).getD i .undef = sl := (getD_set h).trans (if_pos rfl)
theorem getD_ne {ρ : List Slot} {i j : Nat} {sl : Slot} (h : i < ρ.length) (hj : j ≠ i) : (ρ.set i sl).getD j .undef = ρ.getD j .undef := (getD_set h).trans (if_neg hj)
theorem own_ne {ρ : List Slot} {i j : Nat} {d : V} {l : List V} (h : i < ρ.length) (hj : (ρ.set i (.fro d)).getD j .undef = .own l) : j ≠ i := by
  rintro rfl
  exact nomatch (getD_at h).symm.trans hj
theorem mem_ne {a b : Addr} {P : List Addr} (hb : b ∈ P) (ha : a ∉ P) : b ≠ a := fun e => ha (e ▸ hb)
theorem Inv.lt {i : Nat} {x : Str} (I : Inv cx K g₀ s₀ val ρ g s) (hx : cx.vars[i]? = some x) : i < ρ.length := I.len ▸ (List.getElem?_eq_some_iff.mp hx).1
theorem Inv.apart {i j : Nat} {x y : Str} {l l' : List V} {a b : Addr} {vs ws : List Value} {k k' : Nat} (I : Inv cx K g₀ s₀ val ρ g s) (hi : ρ.getD i .undef = .own l) (hj : ρ.getD j .undef = .own l') (O : OwnAt cx K g s.heap x (val i) l a vs k) (O' : OwnAt cx K g s.heap y (val j) l' b ws k') (hne : j ≠ i) : b ≠ a :=
  fun e => hne (I.inj j i l' l hj hi (O'.val.trans (e ▸ O.val.symm)))
theorem Inv.freeze {i : Nat} {x : Str} {l : List V} (I : Inv cx K g₀ s₀ val ρ g s) (hx : cx.vars[i]? = some x) (hi : ρ.getD i .undef = .own l) :
    ∃ g', PH.le g g' ∧ Inv cx K g₀ s₀ val (ρ.set i (.fro (.list l))) g' s ∧ Rep cx.C g' (val i) (.list l) := by
  refine I.own hx hi fun a vs k O => ?_
  have hle : PH.le g (g.put a (lstObj vs k)) := PH.le_put O.g
  have hlt := I.lt hx
  have rep : Rep cx.C (g.put a (lstObj vs k)) (val i) (.list l) := O.val ▸ .list (PH.put_self ..) (O.reps.mono hle)
  refine ⟨_, hle, ⟨fun b o e => (PH.put_cases e).elim (fun z => z.1 ▸ z.2 ▸ O.obj) (I.frz b o), I.keep, I.le₀.trans hle, fun b o e => (PH.put_cases e).elim (fun z => .inr (z.1 ▸ O.K)) (I.new b o), I.rest, fun j y hy => ?_, fun j m l' l'' hj hk hval => ?_, fun b hb => ?_, I.ns, I.lp, (List.length_set ..).trans I.len, I.cells⟩, rep⟩
  · by_cases hj : j = i
    · subst hj
      cases soms hx hy
      rw [getD_at hlt]
      exact ⟨O.ld, rep⟩
    · rw [getD_ne hlt hj]
      exact (I.slot j y hy).to (fun q => q) (fun _ _ r => r.mono hle) fun l' q b ws m O' => ⟨O'.reps.mono hle, ⟨m, O'.obj⟩, (PH.put_ne (I.apart hi q O O' hj)).trans O'.g, O'.K⟩
  · have h1 := own_ne hlt hj
    have h2 := own_ne hlt hk
    exact I.inj j m l' l'' ((getD_ne hlt h1).symm.trans hj) ((getD_ne hlt h2).symm.trans hk) hval
  · have p := I.priv b hb
    exact ⟨(PH.put_ne (mem_ne hb O.P)).trans p.1, p.2⟩

theorem snd_var (i : Nat) : SndE prog w B C n Sp (.var i) := by
  intro sc cx K g₀ s₀ val ρ g s A E Q e hc a I hw
  refine eName_el hc fun id pos hc => ?_
  replace hw : (match ρ.getD i .undef with | .undef => False | .fro v => Q v ρ | .own l => Q (.list l) (ρ.set i (.fro (.list l)))) := hw
  cases q : ρ.getD i .undef with
  | undef => rw [q] at hw; exact hw.elim
  | fro v =>
    rw [q] at hw
    exact name_var a I hc (congrArg slotV q) ⟨v, ρ, g, hw, I, .refl g, (I.fro (isVar_at hc) q).2⟩
  | own l =>
    rw [q] at hw
    exact (I.freeze (isVar_at hc) q).elim fun g' h => name_var a I hc (congrArg slotV q) ⟨.list l, _, g', hw, h.2.1, h.1, h.2.2⟩
end
end Mine

-- part 7
namespace Mine
section
variable {prog : Program} {w : World} {B : Heap} {C : Addr} {mg mb : Str → Option Value} {n : Nat} {Sp : Nat → List V → V → Prop}
variable {cx : Cx} {K g₀ g : PH} {s₀ s : Shared} {val : Nat → Value} {ρ : List Slot} {A : Around} {E : Value → Shared → Prop} {sc : Scope}
theorem SndE.go {c : CE} {Q : V → List Slot → Prop} {e : Expr} (h : SndE prog w B C n Sp c) (hc : chkE glo sc cx.vars false c e = true) (a : At B C n sc cx K A) (I : Inv cx K g₀ s₀ val ρ g s) (hw : wpE Sp c ρ Q) :
    wpAny (model prog w) A (eval e cx.env) (Post cx K g₀ s₀ val g Q) E s := h _ _ _ _ _ _ _ _ _ _ _ _ _ hc a I hw
theorem SndE.then {c : CE} {Q : V → List Slot → Prop} {e : Expr} {R : Value → Shared → Prop} (h : SndE prog w B C n Sp c) (hc : chkE glo sc cx.vars false c e = true) (a : At B C n sc cx K A) (I : Inv cx K g₀ s₀ val ρ g s) (hw : wpE Sp c ρ Q)
    (hr : ∀ d ρ' g' v s', Q d ρ' → Inv cx K g₀ s₀ val ρ' g' s' → PH.le g g' → Rep cx.C g' v d → R v s') : wpAny (model prog w) A (eval e cx.env) R E s :=
  wpAny_mono (h.go (E := E) hc a I hw) (fun v s' p => let ⟨d, ρ', g', q, i, l, r⟩ := p; hr d ρ' g' v s' q i l r) fun _ _ x => x
theorem units64 (a : At B C n sc cx K A) : A.units + 64 < cLine := Nat.lt_of_le_of_lt (Nat.add_le_add (Nat.le_add_right _ _) (by decide)) a.a.units
theorem unitsIn (a : At B C n sc cx K A) : A.in1.units < cLine := Nat.lt_of_le_of_lt (Nat.add_le_add (Nat.le_add_right _ (100 * n)) (by decide : 1 ≤ 200)) a.a.units

theorem snd_none : SndE prog w B C n Sp .none := by
  intro sc cx K g₀ s₀ val ρ g s A E Q e hc a I h
  refine eConst_el hc fun k m p hc => ?_
  obtain rfl := eq_t hc
  exact wpAny_pure (back_post I h _ _ g (.refl I.frz) .none)
theorem snd_bool (b : Bool) : SndE prog w B C n Sp (.bool b) := by
  intro sc cx K g₀ s₀ val ρ g s A E Q e hc a I h
  refine eConst_el hc fun k m p hc => ?_
  obtain rfl := eq_t hc
  exact wpAny_pure (back_post I h _ _ g (.refl I.frz) (.bool _))
theorem snd_int (i : Int) : SndE prog w B C n Sp (.int i) := by
  intro sc cx K g₀ s₀ val ρ g s A E Q e hc a I h
  refine eConst_el hc fun k m p hc => ?_
  obtain rfl := eq_t hc
  exact wpAny_mkInt (Back.tokI I.here (back_post I h))
theorem snd_str (x : Str) : SndE prog w B C n Sp (.str x) := by
  intro sc cx K g₀ s₀ val ρ g s A E Q e hc a I h
  refine eConst_el hc fun k m p hc => ?_
  obtain rfl := eq_t hc
  exact wpAny_mkText (Back.tokS I.here (back_post I h))

theorem snd_bin {op : Operator} {a b : CE} (ha : SndE prog w B C n Sp a) (hb : SndE prog w B C n Sp b) : SndE prog w B C n Sp (.bin op a b) := by
  intro sc cx K g₀ s₀ val ρ g s A E Q e hc at_ I hw
  refine eBin_el hc fun l o r p hc => ?_
  obtain rfl := eq_t (a1 hc)
  exact wpAny_BinOp (ha.then (a1 (a2 hc)) at_ I hw fun d ρ₁ g₁ va s₁ hq I₁ l₁ r₁ => hb.then (a2 (a2 hc)) at_ I₁ hq fun d₂ ρ₂ g₂ vb s₂ hq₂ I₂ l₂ r₂ => hq₂.elim fun r h => bin_sound I₂.here (r₁.mono l₂) r₂ h.1 (back_post' I₂ (l₁.trans l₂) h.2))
theorem snd_neg {a : CE} (ha : SndE prog w B C n Sp a) : SndE prog w B C n Sp (.neg a) := by
  intro sc cx K g₀ s₀ val ρ g s A E Q e hc at_ I hw
  refine eUn_el hc fun o x p hc => ?_
  obtain rfl := eq_t (a1 hc)
  rw [arm_eval_UnaryOp]
  refine wpAny_bind (ha.then (a2 hc) at_ I hw fun d ρ₁ g₁ va s₁ hq I₁ l₁ r₁ => wpAny_bind (wpAny_standAt (wpAny_holding ?_)))
  obtain ⟨i, rfl, hq⟩ := hq
  exact r₁.intE fun t => PyProof.Rows.neg_int (Back.tokI I₁.here (back_post' I₁ l₁ hq))
theorem noSet_marks {op : CmpOp} {r : Expr} (h : noSet r = true) : behindInMarks op r = false := by
  cases r <;> first | rfl | cases h
theorem snd_cmp {op : CmpOp} {a b : CE} (ha : SndE prog w B C n Sp a) (hb : SndE prog w B C n Sp b) : SndE prog w B C n Sp (.cmp op a b) := by
  intro sc cx K g₀ s₀ val ρ g s A E Q e hc at_ I hw
  refine eCmp_el hc fun l ops rs p hc => one_el hc fun o hc => one_el hc fun r hc => ?_
  obtain rfl := eq_t (a1 hc)
  exact wpAny_Compare1 (ha.then (a1 (a2 (a2 hc))) at_ I hw fun d ρ₁ g₁ va s₁ hq I₁ l₁ r₁ => hb.then (a2 (a2 (a2 hc))) at_ I₁ hq fun d₂ ρ₂ g₂ vb s₂ hq₂ I₂ l₂ r₂ =>
    cmp_sound I₂.here (units64 at_) (r₁.mono l₂) r₂ hq₂.1 fun r hr => back_post' I₂ (l₁.trans l₂) (hq₂.2 r hr)) (noSet_marks (a1 (a2 hc)))

theorem truthy_b {b : Bool} {Q : Bool → Shared → Prop} (h : Q b s) : wpAny (model prog w) A (truthy (.bool b)) Q E s := wpAny_truthy_bool h
theorem snd_bop {op : BoolOp} {a b : CE} (ha : SndE prog w B C n Sp a) (hb : SndE prog w B C n Sp b) : SndE prog w B C n Sp (.bop op a b) := by
  intro sc cx K g₀ s₀ val ρ g s A E Q e hc at_ I hw
  refine eBool_el hc fun o es p hc => ?_
  obtain rfl := eq_t (a1 hc)
  refine two_el (a2 hc) fun l r hc => ?_
  rw [arm_eval_BoolOp]
  show wpAny _ A (do let v ← eval _ cx.env; standAt _; let t ← holding [v] (truthy v); match o, t with | .And, false | .Or, true => pure v | _, _ => boolOp _ o [eval _ cx.env]) _ _ s
  refine wpAny_bind (ha.then (a1 hc) at_ I hw fun d ρ₁ g₁ va s₁ hq I₁ l₁ r₁ => wpAny_bind (wpAny_standAt (wpAny_bind (wpAny_holding ?_))))
  obtain ⟨x, rfl, hq⟩ := hq
  refine r₁.boolE (wpAny_truthy_bool ?_)
  have skip : (x = (o == .Or)) → wpAny (model prog w) A (pure (Value.bool x)) (Post cx K g₀ s₀ val g Q) E s₁ := fun e => wpAny_pure ⟨.bool x, ρ₁, g₁, hq.1 e, I₁, l₁, .bool x⟩
  have more : (x ≠ (o == .Or)) → wpAny (model prog w) A (eval r cx.env) (Post cx K g₀ s₀ val g Q) E s₁ := fun e => hb.then (a2 hc) at_ I₁ (hq.2 e) fun d₂ ρ₂ g₂ vb s₂ hq₂ I₂ l₂ r₂ => by
    obtain ⟨y, rfl, hq₂⟩ := hq₂
    exact ⟨.bool y, ρ₂, g₂, hq₂, I₂, l₁.trans l₂, r₂⟩
  cases o <;> cases x <;> first | exact skip rfl | exact more nofun

noncomputable def PostB (cx : Cx) (K g₀ : PH) (s₀ : Shared) (val : Nat → Value) (g : PH) (Q : Bool → List Slot → Prop) (b : Bool) (s' : Shared) : Prop := ∃ ρ' g', Q b ρ' ∧ Inv cx K g₀ s₀ val ρ' g' s' ∧ PH.le g g'
noncomputable def plainTrue (e : Expr) (whole : Sem Value) : Sem Bool := do let v ← whole; standAt e.pos; holding [v] (truthy v)
theorem isTrue_of_plain {e : Expr} {env : Env} {whole : Sem Value} (h : plainTest e = true) : PySem.isTrue e env whole = plainTrue e whole := by
  cases e <;> first | rfl | exact nomatch h
theorem isTrue_of_cmp {l r : Expr} {op : CmpOp} {pos : Pos} {env : Env} {whole : Sem Value} : PySem.isTrue (.Compare l [op] [r] pos) env whole = (do let v ← eval (.Compare l [op] [r] pos) env; holding [v] (truthy v)) := by
  rw [isTrue_Compare1, eval_Compare1]
  simp only [bind_assoc]
theorem test_sound {e : Expr} {env : Env} {Q : Bool → Shared → Prop} (h : (plainTest e || isCmp1 e) = true) (hw : wpAny (model prog w) A (eval e env) (fun v s' => ∃ b, v = .bool b ∧ Q b s') E s) : wpAny (model prog w) A (PySem.isTrue e env (eval e env)) Q E s := by
  rcases or_t h with hp | hp
  · rw [isTrue_of_plain hp]
    exact wpAny_bind (wpAny_mono hw (fun v s' hv => wpAny_bind (wpAny_standAt (wpAny_holding (hv.elim fun b h => h.1 ▸ wpAny_truthy_bool h.2)))) fun _ _ x => x)
  · refine eCmp_el (P := fun e => wpAny (model prog w) A (eval e env) _ E s → wpAny (model prog w) A (PySem.isTrue e env (eval e env)) Q E s) hp (fun l ops rs p hp => ?_) hw
    refine one_el hp fun o hp => one_el hp fun r hp hw => ?_
    rw [isTrue_of_cmp]
    exact wpAny_bind (wpAny_mono hw (fun v s' hv => wpAny_holding (hv.elim fun b h => h.1 ▸ wpAny_truthy_bool h.2)) fun _ _ x => x)
theorem SndE.test {c : CE} {Q : Bool → List Slot → Prop} {e : Expr} {R : Bool → Shared → Prop} (h : SndE prog w B C n Sp c) (ht : (plainTest e || isCmp1 e) = true) (hc : chkE glo sc cx.vars false c e = true) (a : At B C n sc cx K A) (I : Inv cx K g₀ s₀ val ρ g s)
    (hw : wpE Sp c ρ fun v ρ' => ∃ b, v = .bool b ∧ Q b ρ') (hr : ∀ b ρ' g' s', Q b ρ' → Inv cx K g₀ s₀ val ρ' g' s' → PH.le g g' → R b s') : wpAny (model prog w) A (PySem.isTrue e cx.env (eval e cx.env)) R E s :=
  test_sound ht (h.then hc a I hw fun d ρ' g' v s' hq i l r => by
    obtain ⟨b, rfl, hq⟩ := hq
    exact ⟨b, r.bool_inv, hr b ρ' g' s' hq i l⟩)
noncomputable def SndT (prog : Program) (w : World) (B : Heap) (C : Addr) (n : Nat) (Sp : Nat → List V → V → Prop) (c : CE) : Prop :=
  ∀ (sc : Scope) (cx : Cx) (K g₀ : PH) (s₀ : Shared) (val : Nat → Value) (ρ : List Slot) (g : PH) (s : Shared) (A : Around) (E : Value → Shared → Prop) (Q : Bool → List Slot → Prop) (e : Expr),
    chkT glo sc cx.vars c e = true → At B C n sc cx K A → Inv cx K g₀ s₀ val ρ g s → (wpE Sp c ρ fun v ρ' => ∃ b, v = .bool b ∧ Q b ρ') → wpAny (model prog w) A (PySem.isTrue e cx.env (eval e cx.env)) (PostB cx K g₀ s₀ val g Q) E s
theorem SndT.of {c : CE} (h : SndE prog w B C n Sp c) (hn : ∀ sc vars e, chkT glo sc vars c e = ((plainTest e || isCmp1 e) && chkE glo sc vars false c e)) : SndT prog w B C n Sp c := by
  intro sc cx K g₀ s₀ val ρ g s A E Q e hc a I hw
  rw [hn] at hc
  exact h.test (a1 hc) (a2 hc) a I hw fun b ρ' g' s' hq i l => ⟨ρ', g', hq, i, l⟩
theorem sndT_bop {op : BoolOp} {a b : CE} (ha : SndT prog w B C n Sp a) (hb : SndT prog w B C n Sp b) : SndT prog w B C n Sp (.bop op a b) := by
  intro sc cx K g₀ s₀ val ρ g s A E Q e hc at_ I hw
  refine eBool_el hc fun o es p hc => ?_
  obtain rfl := eq_t (a1 hc)
  refine two_el (a2 hc) fun l r hc => ?_
  show wpAny _ A (do match o, ← PySem.isTrue l cx.env (eval l cx.env) with | .And, false => pure false | .Or, true => pure true | _, _ => allTrue o [r] cx.env) _ _ s
  refine wpAny_bind (wpAny_mono (ha _ _ _ _ _ _ _ _ _ _ E (fun x ρ₁ => (x = (o == .Or) → ∃ b, V.bool x = .bool b ∧ Q b ρ₁) ∧ (x ≠ (o == .Or) → wpE Sp b ρ₁ fun vb ρ₂ => ∃ y, vb = .bool y ∧ ∃ b, V.bool y = .bool b ∧ Q b ρ₂)) _ (a1 hc) at_ I hw) (fun x s₁ p => ?_) fun _ _ x => x)
  obtain ⟨ρ₁, g₁, hq, I₁, l₁⟩ := p
  have skip : (x = (o == .Or)) → wpAny (model prog w) A (pure x) (PostB cx K g₀ s₀ val g Q) E s₁ := fun e => wpAny_pure ⟨ρ₁, g₁, (hq.1 e).elim fun _ h => V.bool.inj h.1 ▸ h.2, I₁, l₁⟩
  have more : (x ≠ (o == .Or)) → wpAny (model prog w) A (allTrue o [r] cx.env) (PostB cx K g₀ s₀ val g Q) E s₁ := fun e => by
    show wpAny _ A (do match o, ← PySem.isTrue r cx.env (eval r cx.env) with | .And, false => pure false | .Or, true => pure true | _, _ => allTrue o [] cx.env) _ _ s₁
    refine wpAny_bind (wpAny_mono (hb _ _ _ _ _ _ _ _ _ _ E _ _ (a2 hc) at_ I₁ (hq.2 e)) (fun y s₂ p => ?_) fun _ _ x => x)
    obtain ⟨ρ₂, g₂, hq, I₂, l₂⟩ := p
    have fin : PostB cx K g₀ s₀ val g Q y s₂ := ⟨ρ₂, g₂, hq.elim fun _ h => V.bool.inj h.1 ▸ h.2, I₂, l₁.trans l₂⟩
    cases o <;> cases y <;> exact wpAny_pure fin
  cases o <;> cases x <;> first | exact skip rfl | exact more nofun
end
end Mine

-- part 8
namespace Mine
section
variable {prog : Program} {w : World} {B : Heap} {C : Addr} {mg mb : Str → Option Value} {n : Nat} {Sp : Nat → List V → V → Prop}
variable {cx : Cx} {K g₀ g : PH} {s₀ s : Shared} {val : Nat → Value} {ρ : List Slot} {A : Around} {E : Value → Shared → Prop} {sc : Scope}

theorem Inv.sub (a : At B C n sc cx K A) (I : Inv cx K g₀ s₀ val ρ g s) : PH.Sub (ofHeap B) s.heap := fun b o e => I.keep b o (a.sub b o e)

theorem snd_ite {t a b : CE} (ht : SndE prog w B C n Sp t) (ha : SndE prog w B C n Sp a) (hb : SndE prog w B C n Sp b) : SndE prog w B C n Sp (.ite t a b) := by
  intro sc cx K g₀ s₀ val ρ g s A E Q e hc at_ I hw
  refine eIf_el hc fun t' l r p hc => ?_
  show wpAny _ A (do if ← PySem.isTrue _ cx.env (eval _ cx.env) then eval _ cx.env else eval _ cx.env) _ _ s
  refine wpAny_bind (ht.test (Q := fun x ρ₁ => (x = true → wpE Sp a ρ₁ Q) ∧ (x = false → wpE Sp b ρ₁ Q)) (by rw [a1 hc]; rfl) (a1 (a2 hc)) at_ I hw fun x ρ₁ g₁ s₁ hq I₁ l₁ => ?_)
  cases x with
  | true => exact (ha.then (a1 (a2 (a2 hc))) at_ I₁ (hq.1 rfl) fun d ρ₂ g₂ v s₂ hq I₂ l₂ r => ⟨d, ρ₂, g₂, hq, I₂, l₁.trans l₂, r⟩)
  | false => exact (hb.then (a2 (a2 (a2 hc))) at_ I₁ (hq.2 rfl) fun d ρ₂ g₂ v s₂ hq I₂ l₂ r => ⟨d, ρ₂, g₂, hq, I₂, l₁.trans l₂, r⟩)

theorem len64 {vs : List Value} {es : List Expr} (h : vs.length = es.length) (h' : decide (es.length ≤ 64) = true) : vs.length ≤ sizeLine := size_ok (h ▸ Nat.le_trans (of_decide_eq_true h') (by decide))
theorem star1 {x : Expr} {r : List Expr} {env : Env} (h : noStar x = true) : starEach (x :: r) env = (false, eval x env) :: starEach r env := by
  cases x <;> first | rfl | cases h
theorem spliced_sound {pos : Pos} : ∀ {l : List CE} {es : List Expr} {ρ : List Slot} {g : PH} {s : Shared} {Q : List V → List Slot → Prop}, SndL prog w B C n Sp l → chkEs glo sc cx.vars l es = true → At B C n sc cx K A → Inv cx K g₀ s₀ val ρ g s → wpEs Sp l ρ Q →
    wpAny (model prog w) A (spliced (backTo pos (starEach es cx.env))) (fun vs s' => vs.length = es.length ∧ PostL cx K g₀ s₀ val g Q vs s') E s
  | [], _, ρ, g, _, _, _, hc, _, I, hw => nil0_el hc (spliced_nil ⟨rfl, [], ρ, g, hw, I, .refl g, .nil⟩)
  | c :: cs, es, ρ, g, s, Q, hl, hc, at_, I, hw => by
    refine unc_el hc fun e es hc => ?_
    rw [star1 (a1 (a2 hc))]
    exact spliced_cons (hl.1.then (a1 hc) at_ I hw fun d ρ₁ g₁ v s₁ hq I₁ l₁ r₁ => wpAny_mono (spliced_sound hl.2 (a2 (a2 hc)) at_ I₁ hq)
      (fun vs s₂ p => ⟨congrArg (· + 1) p.1, let ⟨ds, ρ₂, g₂, hq, I₂, l₂, r₂⟩ := p.2; ⟨d :: ds, ρ₂, g₂, hq, I₂, l₁.trans l₂, .cons (r₁.mono l₂) r₂⟩⟩) fun _ _ x => x)

theorem snd_lst {l : List CE} (hl : SndL prog w B C n Sp l) : SndE prog w B C n Sp (.lst l) := by
  intro sc cx K g₀ s₀ val ρ g s A E Q e hc at_ I hw
  refine eList_el hc fun es p hc => ?_
  rw [arm_eval_List]
  refine wpAny_bind (wpAny_standAt (wpAny_bind (wpAny_mono (spliced_sound hl (a2 hc) at_ I hw) (fun vs s₁ p => ?_) fun _ _ x => x)))
  obtain ⟨hlen, ds, ρ₁, g₁, hq, I₁, l₁, r₁⟩ := p
  exact wpAny_newList (Back.pushL I₁.here r₁ (back_post' I₁ l₁ hq)) (len64 hlen (a1 hc))
theorem snd_tup {l : List CE} (hl : SndL prog w B C n Sp l) : SndE prog w B C n Sp (.tup l) := by
  intro sc cx K g₀ s₀ val ρ g s A E Q e hc at_ I hw
  refine eTup_el hc fun es k p hc => ?_
  rw [arm_eval_Tuple]
  refine wpAny_bind (wpAny_standAt (wpAny_bind (wpAny_mono (spliced_sound hl (a2 hc) at_ I hw) (fun vs s₁ p => ?_) fun _ _ x => x)))
  obtain ⟨hlen, ds, ρ₁, g₁, hq, I₁, l₁, r₁⟩ := p
  exact wpAny_newTuple (Back.pushT I₁.here r₁ (back_post' I₁ l₁ hq)) (len64 hlen (a1 hc))

theorem sub_ops (slice : Expr) (o i : Value) : ∃ ops, subscripted slice false o i = operate ops (getItem o i) := by
  cases slice with
  | Slice l u st p => cases st <;> exact ⟨_, rfl⟩
  | _ => exact ⟨_, rfl⟩
theorem seqIndex_spec {i : Int} {n j : Nat} (h : seqIndex? i n = some j) : (0 ≤ i ∧ i < n ∧ j = i.toNat) ∨ (i < 0 ∧ -(n : Int) ≤ i ∧ j = (i + n).toNat) := by
  unfold seqIndex? at h
  by_cases hi : i < 0
  · simp only [hi, if_true] at h
    obtain ⟨hb, rfl⟩ := ite_some h
    simp only [Bool.and_eq_true, decide_eq_true_eq] at hb
    exact .inr ⟨hi, by omega, rfl⟩
  · simp only [hi, if_false] at h
    obtain ⟨hb, rfl⟩ := ite_some h
    simp only [Bool.and_eq_true, decide_eq_true_eq] at hb
    exact .inl ⟨by omega, by omega, rfl⟩
theorem idx_bounds {i : Int} {n j : Nat} (h : seqIndex? i n = some j) (hn : n ≤ 1048576) : -(2 ^ 63) ≤ i ∧ i < 2 ^ 63 := by
  have := seqIndex_spec h
  omega
theorem idx_list {a : Addr} {vs : List Value} {k : Nat} {i : Int} {t : Tok} {j : Nat} {x : Value} {value slice : Expr} {Q : Value → Shared → Prop} (hl : s.heap.get? a = some (lstObj vs k)) (hn : vs.length ≤ 1048576) (hj : seqIndex? i vs.length = some j) (hx : vs[j]? = some x) (h : Q x s) :
    wpAny (model prog w) A (subscriptTail value slice (.ref a) (.int i t)) Q E s := by
  obtain ⟨ops, ho⟩ := sub_ops slice (.ref a) (.int i t)
  refine tail_any (lst_is hl).typeIs slot_list_getitem.lookup ?_ ho
  have hb := idx_bounds hj hn
  rcases seqIndex_spec hj with ⟨h0, h1, rfl⟩ | ⟨h0, h1, rfl⟩
  · exact wpAny_getItem_list (lst_is hl) h0 hb.2 ((List.getElem?_toArray ..).trans hx) h
  · exact wpAny_getItem_list_neg (lst_is hl) h0 h1 hb.1 ((List.getElem?_toArray ..).trans hx) h
theorem idx_tup {a : Addr} {vs : List Value} {k : Nat} {i : Int} {t : Tok} {j : Nat} {x : Value} {value slice : Expr} {Q : Value → Shared → Prop} (hl : s.heap.get? a = some (tupObj vs k)) (hn : vs.length ≤ 1048576) (hj : seqIndex? i vs.length = some j) (hx : vs[j]? = some x) (h : Q x s) :
    wpAny (model prog w) A (subscriptTail value slice (.ref a) (.int i t)) Q E s := by
  obtain ⟨ops, ho⟩ := sub_ops slice (.ref a) (.int i t)
  refine tail_any ⟨_, hl, rfl⟩ PySem.F.slot_tuple_getitem.lookup ?_ ho
  have hb := idx_bounds hj hn
  exact getItem_tuple (tup_is hl) hb.1 hb.2 hj ((List.getElem?_toArray ..).trans hx) h
noncomputable def idxL (l : List V) (i : Int) : Option V := if l.length ≤ 1048576 then (seqIndex? i l.length).bind (l[·]?) else none
theorem idxL_inv {l : List V} {i : Int} {r : V} {vs : List Value} (h : idxL l i = some r) (rx : Reps C g vs l) {P : Prop} (f : ∀ j v, vs.length ≤ 1048576 → seqIndex? i vs.length = some j → vs[j]? = some v → Rep C g v r → P) : P := by
  by_cases hn : l.length ≤ 1048576
  · obtain ⟨j, hj, hd⟩ := Option.bind_eq_some_iff.mp ((if_pos hn).symm.trans h)
    obtain ⟨v, hv, rv⟩ := rx.get hd
    exact f j v (rx.length ▸ hn) (rx.length ▸ hj) hv rv
  · exact nos (if_neg hn) h
theorem idx_sound {a i r : V} {va vi : Value} {value slice : Expr} {Q : Value → Shared → Prop} (H : Here cx.env.locals g s) (ra : Rep cx.C g va a) (ri : Rep cx.C g vi i) (hr : idxV a i = some r) (h : Back cx.C cx.env.locals s g r Q) :
    wpAny (model prog w) A (subscriptTail value slice va vi) Q E s := by
  cases a with
  | list l =>
    obtain ⟨i, rfl, hr⟩ := onInt_inv (k := idxL l) hr
    exact ra.listE H.frz fun x vs k _ hx rx => ri.intE fun t => idxL_inv hr rx fun j v h1 h2 h3 rv => idx_list hx h1 h2 h3 (h _ _ g (.refl H.frz) rv)
  | tup l =>
    obtain ⟨i, rfl, hr⟩ := onInt_inv (k := idxL l) hr
    exact ra.tupE H.frz fun x vs k _ hx rx => ri.intE fun t => idxL_inv hr rx fun j v h1 h2 h3 rv => idx_tup hx h1 h2 h3 (h _ _ g (.refl H.frz) rv)
  | _ => exact nomatch (show none = some r from hr)

theorem snd_sub {a i : CE} (ha : SndE prog w B C n Sp a) (hi : SndE prog w B C n Sp i) : SndE prog w B C n Sp (.sub a i) := by
  intro sc cx K g₀ s₀ val ρ g s A E Q e hc at_ I hw
  exact eSub_el hc fun o x p hc => Subscript_ (ha.then (a1 hc) at_ I hw fun d ρ₁ g₁ va s₁ hq I₁ l₁ r₁ => hi.then (a2 hc) at_ I₁ hq fun d₂ ρ₂ g₂ vi s₂ hq₂ I₂ l₂ r₂ =>
    hq₂.elim fun r h => idx_sound I₂.here (r₁.mono l₂) r₂ h.1 (back_post' I₂ (l₁.trans l₂) h.2))

inductive Seen (cx : Cx) (g : PH) (h : Heap) : Value → V → Prop where
  | fro {v : Value} {d : V} : Rep cx.C g v d → Seen cx g h v d
  | own {a : Addr} {vs : List Value} {k : Nat} {l : List V} : h.get? a = some (lstObj vs k) → Reps cx.C g vs l → Seen cx g h (.ref a) (.list l)
theorem Inv.seen {i : Nat} {x : Str} {d : V} (I : Inv cx K g₀ s₀ val ρ g s) (hx : cx.vars[i]? = some x) (hd : slotV (ρ.getD i .undef) = some d) : Seen cx g s.heap (val i) d := by
  cases q : ρ.getD i .undef with
  | undef => exact nomatch (congrArg slotV q).symm.trans hd
  | fro v => cases Option.some.inj ((congrArg slotV q).symm.trans hd); exact .fro (I.fro hx q).2
  | own l => cases Option.some.inj ((congrArg slotV q).symm.trans hd); exact I.own hx q fun a vs k O => O.val ▸ .own O.obj O.reps
theorem Seen.list {v : Value} {l : List V} (h : Seen cx g s.heap v (.list l)) (H : Here cx.env.locals g s) : ∃ a vs k, v = .ref a ∧ s.heap.get? a = some (lstObj vs k) ∧ Reps cx.C g vs l :=
  Seen.rec (motive := fun v d _ => ∀ l, d = .list l → ∃ a vs k, v = .ref a ∧ s.heap.get? a = some (lstObj vs k) ∧ Reps cx.C g vs l) (fun r l e => (Rep.list_inv (e ▸ r : Rep cx.C g _ (.list l)) H.frz).elim fun a r => r.elim fun vs r => r.elim fun k r => ⟨a, vs, k, r.1, r.2.2⟩) (fun h r l e => ⟨_, _, _, rfl, h, V.list.inj e ▸ r⟩) h l rfl
@[elab_as_elim] theorem Seen.listE {P : Value → Prop} {v : Value} {l : List V} (h : Seen cx g s.heap v (.list l)) (H : Here cx.env.locals g s) (f : ∀ a vs k, s.heap.get? a = some (lstObj vs k) → Reps cx.C g vs l → P (.ref a)) : P v := by
  obtain ⟨a, vs, k, rfl, h, r⟩ := h.list H
  exact f a vs k h r
theorem Seen.rep {v : Value} {d : V} (h : Seen cx g s.heap v d) (hd : d.ctorIdx ≠ 4) : Rep cx.C g v d :=
  Seen.rec (motive := fun v d _ => d.ctorIdx ≠ 4 → Rep cx.C g v d) (fun r _ => r) (fun _ _ h => absurd rfl h) h hd
theorem idx_seen {a i r : V} {va vi : Value} {value slice : Expr} {Q : Value → Shared → Prop} (H : Here cx.env.locals g s) (sa : Seen cx g s.heap va a) (ri : Rep cx.C g vi i) (hr : idxV a i = some r) (h : Back cx.C cx.env.locals s g r Q) :
    wpAny (model prog w) A (subscriptTail value slice va vi) Q E s := by
  cases sa with
  | fro ra => exact idx_sound H ra ri hr h
  | own hx rx =>
    obtain ⟨i, rfl, hr⟩ := onInt_inv (k := idxL _) hr
    exact ri.intE fun t => idxL_inv hr rx fun j v h1 h2 h3 rv => idx_list hx h1 h2 h3 (h _ _ g (.refl H.frz) rv)
theorem some_of_ne {α : Type} {o : Option α} (h : o ≠ none) : ∃ x, o = some x := match o, h with
  | none, h => absurd rfl h
  | some x, _ => ⟨x, rfl⟩
theorem snd_subv {x : Nat} {i : CE} (hi : SndE prog w B C n Sp i) : SndE prog w B C n Sp (.subv x i) := by
  intro sc cx K g₀ s₀ val ρ g s A E Q e hc at_ I hw
  exact eSub_el hc fun o y p hc => eName_el hc fun id p hc => (some_of_ne hw.1).elim fun d hd => Subscript_ (name_var at_ I (a1 hc) hd (hi.then (a2 hc) at_ I hw.2 fun d₂ ρ₂ g₂ vi s₂ hq₂ I₂ l₂ r₂ =>
    hq₂.elim fun a h => h.elim fun r h => idx_seen I₂.here (I₂.seen (isVar_at (a1 hc)) h.1) r₂ h.2.1 (back_post' I₂ l₂ h.2.2)))
end
end Mine

-- part 9
namespace Mine
section
variable {prog : Program} {w : World} {B : Heap} {C : Addr} {mg mb : Str → Option Value} {n : Nat} {Sp : Nat → List V → V → Prop}
variable {cx : Cx} {K g₀ g : PH} {s₀ s : Shared} {val : Nat → Value} {ρ : List Slot} {A : Around} {E : Value → Shared → Prop} {sc : Scope}

theorem SndO.then {c : Option CE} {Q : V → List Slot → Prop} {e : Option Expr} {R : Value → Shared → Prop} (h : SndO prog w B C n Sp c) (hc : chkO glo sc cx.vars c e = true) (a : At B C n sc cx K A) (I : Inv cx K g₀ s₀ val ρ g s) (hw : wpO Sp c ρ Q)
    (hr : ∀ d ρ' g' v s', Q d ρ' → Inv cx K g₀ s₀ val ρ' g' s' → PH.le g g' → Rep cx.C g' v d → R v s') : wpAny (model prog w) A (evalPart e cx.env) R E s := by
  cases c with
  | none =>
    cases e with
    | none => rw [evalPart_none]; exact wpAny_pure (hr _ _ g _ _ hw I (.refl g) .none)
    | some e => exact nomatch hc
  | some c => exact opt_el hc fun e hc => (evalPart_some ..).symm ▸ SndE.then (c := c) h hc a I hw hr

theorem part_is {v : Value} {d : V} {p : Option Int} (r : Rep cx.C g v d) (hp : partV d = some p) : IsPart v p := by
  cases d with
  | none => exact r.noneE (Option.some.inj hp ▸ .none)
  | int i => exact r.intE fun t => Option.some.inj hp ▸ .int _ _
  | _ => exact nomatch (show none = some p from hp)
theorem part_str {v : Value} {d : V} {p : Option Int} (r : Rep cx.C g v d) (hp : partV d = some p) : ∃ q : Option (Int × Tok), v = partValue q ∧ q.map (·.1) = p := by
  cases d with
  | none => exact ⟨none, r, Option.some.inj hp⟩
  | int i => exact r.elim fun t e => ⟨some (_, t), e, Option.some.inj hp⟩
  | _ => exact nomatch (show none = some p from hp)
theorem part_none {v : Value} {d : V} (r : Rep cx.C g v d) (hp : partV d = some none) : v = .none := by
  cases d with
  | none => exact r
  | int i => exact nomatch Option.some.inj hp
  | _ => exact nomatch (show none = some none from hp)
theorem pick_reps {vs : List Value} {l : List V} (r : Reps cx.C g vs l) (lo hi st : Option Int) : Reps cx.C g (pickL vs lo hi st) (pickL l lo hi st) := by
  unfold pickL
  rw [r.length]
  generalize sliceRange _ _ _ = idx
  induction idx with
  | nil => exact .nil
  | cons i idx ih =>
    cases q : l[i]? with
    | none => rw [List.filterMap_cons_none q, List.filterMap_cons_none (List.getElem?_eq_none_iff.mpr (r.length ▸ List.getElem?_eq_none_iff.mp q))]; exact ih
    | some d => exact (r.get q).elim fun v h => by rw [List.filterMap_cons_some q, List.filterMap_cons_some h.1]; exact .cons h.2 ih
theorem pick_arr (vs : List Value) (lo hi st : Option Int) : slicePick vs.toArray lo hi st = (pickL vs lo hi st).toArray := by
  simp [slicePick, pickL]

theorem small63 {n : Nat} (h : n ≤ 1048576) : (n : Int) < 2 ^ 63 := Int.lt_of_le_of_lt (Int.ofNat_le.mpr h) (by decide)
theorem slice_list {a : Addr} {vs : List Value} {k : Nat} {l : List V} {lo hi st : Option Int} {vl vh vs' : Value} {value slice : Expr} {Q : Value → Shared → Prop} (H : Here cx.env.locals g s) (hx : s.heap.get? a = some (lstObj vs k)) (rx : Reps cx.C g vs l) (hn : l.length ≤ 1048576) (h0 : st ≠ some 0)
    (pl : IsPart vl lo) (ph : IsPart vh hi) (ps : IsPart vs' st) (h : Back cx.C cx.env.locals s g (.list (pickL l lo hi st)) Q) :
    wpAny (model prog w) A (subscriptTail value slice (.ref a) (.ref s.heap.objs.size)) Q E { s with heap := s.heap.push { cls := .type "slice", data := .fields #[vl, vh, vs'] } } := by
  obtain ⟨ops, ho⟩ := sub_ops slice (.ref a) (.ref s.heap.objs.size)
  have hx' := Heap.get?_push_of_some { cls := .type "slice", data := .fields #[vl, vh, vs'] } hx
  have e : Ext cx.env.locals s g { s with heap := s.heap.push { cls := .type "slice", data := .fields #[vl, vh, vs'] } } g := Ext.of (tk := s.toks) H.frz fun b o e => Heap.get?_push_of_some _ e
  refine tail_any (Heap.IsList.typeIs (s := { s with heap := s.heap.push { cls := .type "slice", data := .fields #[vl, vh, vs'] } }) (lst_is hx')) list_getitem_lookup ?_ ho
  refine wpAny_getItem_list_slice (lst_is hx') (Heap.IsSliceOf.new _ _ _ _) pl ph ps h0 ?_ (by simpa using size_ok (by rw [rx.length]; exact hn))
  rw [pick_arr]
  exact Back.pushL (n := 0) (tk := s.toks) (H.ext e) (pick_reps rx lo hi st) fun v s' g' e' r' => h v s' g' (e.trans e') r'
theorem slice_str {x : Str} {t : Tok} {lo hi : Option Int} {vl vh : Value} {ql qh : Option (Int × Tok)} {value slice : Expr} {Q : Value → Shared → Prop} (H : Here cx.env.locals g s) (hn : x.length ≤ 1048576) (hl : vl = partValue ql) (hl' : ql.map (·.1) = lo) (hh : vh = partValue qh) (hh' : qh.map (·.1) = hi)
    (h : Back cx.C cx.env.locals s g (.str (Txt.slice x lo hi)) Q) :
    wpAny (model prog w) A (subscriptTail value slice (.str x t) (.ref s.heap.objs.size)) Q E { s with heap := s.heap.push { cls := .type "slice", data := .fields #[vl, vh, .none] } } := by
  subst hl hh hl' hh'
  obtain ⟨ops, ho⟩ := sub_ops slice (.str x t) (.ref s.heap.objs.size)
  have e : Ext cx.env.locals s g { s with heap := s.heap.push { cls := .type "slice", data := .fields #[partValue ql, partValue qh, .none] } } g := Ext.of (tk := s.toks) H.frz fun b o e => Heap.get?_push_of_some _ e
  refine tail_any (typeIs_str _ x t) PySem.F.slot_str_getitem.lookup ?_ ho
  refine wpAny_getItem_str_slice (l := ql) (u := qh) (st := none) ⟨_, Heap.get?_push_size _ rfl, rfl, rfl⟩ rfl ?_
  exact post_val_or_str ⟨Nat.le_trans (Txt.slice_le x _ _) (size_ok hn), fun t' k => Back.tokS (H.ext e) fun v s' g' e' r' => h v s' g' (e.trans e') r'⟩

theorem slice_seen {a : V} {lo hi st : Option Int} {va vl vh vs' : Value} {dl dh ds r : V} {value slice : Expr} {Q : Value → Shared → Prop} (H : Here cx.env.locals g s) (sa : Seen cx g s.heap va a) (rl : Rep cx.C g vl dl) (rh : Rep cx.C g vh dh) (rs : Rep cx.C g vs' ds)
    (pl : partV dl = some lo) (ph : partV dh = some hi) (ps : partV ds = some st) (hr : sliceV a lo hi st = some r) (h : Back cx.C cx.env.locals s g r Q) :
    wpAny (model prog w) A (subscriptTail value slice va (.ref s.heap.objs.size)) Q E { s with heap := s.heap.push { cls := .type "slice", data := .fields #[vl, vh, vs'] } } := by
  cases a with
  | list l =>
    obtain ⟨hc, rfl⟩ := ite_some hr
    exact sa.listE H fun x vs k hx rx => slice_list H hx rx hc.2 hc.1 (part_is rl pl) (part_is rh ph) (part_is rs ps) h
  | str x =>
    cases st with
    | some _ => exact nomatch (show none = some r from hr)
    | none =>
      obtain ⟨hc, rfl⟩ := ite_some hr
      obtain ⟨ql, h1, h2⟩ := part_str rl pl
      obtain ⟨qh, h3, h4⟩ := part_str rh ph
      obtain rfl := part_none rs ps
      exact (sa.rep nofun).strE fun t => slice_str H hc h1 h2 h3 h4 h
  | _ => exact nomatch (show none = some r from hr)

theorem snd_slc {a : CE} {lo hi st : Option CE} (ha : SndE prog w B C n Sp a) (hlo : SndO prog w B C n Sp lo) (hhi : SndO prog w B C n Sp hi) (hst : SndO prog w B C n Sp st) : SndE prog w B C n Sp (.slc a lo hi st) := by
  intro sc cx K g₀ s₀ val ρ g s A E Q e hc at_ I hw
  refine eSub_el hc fun o y p hc => eSlice_el hc fun l h st p' hc => Subscript_ (ha.then (a1 hc) at_ I hw fun d ρ₁ g₁ va s₁ hq I₁ l₁ r₁ => wpAny_Slice (hlo.then (a1 (a2 hc)) at_ I₁ hq fun d₂ ρ₂ g₂ vl s₂ hq₂ I₂ l₂ r₂ => hhi.then (a1 (a2 (a2 hc))) at_ I₂ hq₂ fun d₃ ρ₃ g₃ vh s₃ hq₃ I₃ l₃ r₃ =>
    hst.then (a2 (a2 (a2 hc))) at_ I₃ hq₃ fun d₄ ρ₄ g₄ vs s₄ hq₄ I₄ l₄ r₄ => ?_))
  obtain ⟨l, h, s', r, p1, p2, p3, hr, hq⟩ := hq₄
  exact slice_seen I₄.here (.fro (r₁.mono (l₂.trans (l₃.trans l₄)))) (r₂.mono (l₃.trans l₄)) (r₃.mono l₄) r₄ p1 p2 p3 hr (back_post' I₄ (l₁.trans (l₂.trans (l₃.trans l₄))) hq)
theorem snd_slcv {x : Nat} {lo hi st : Option CE} (hlo : SndO prog w B C n Sp lo) (hhi : SndO prog w B C n Sp hi) (hst : SndO prog w B C n Sp st) : SndE prog w B C n Sp (.slcv x lo hi st) := by
  intro sc cx K g₀ s₀ val ρ g s A E Q e hc at_ I hw
  refine eSub_el hc fun o y p hc => eName_el hc fun id p hc => eSlice_el hc fun l h st p' hc => (some_of_ne hw.1).elim fun d hd => Subscript_ (name_var at_ I (a1 hc) hd (wpAny_Slice (hlo.then (a1 (a2 hc)) at_ I hw.2 fun d₂ ρ₂ g₂ vl s₂ hq₂ I₂ l₂ r₂ => hhi.then (a1 (a2 (a2 hc))) at_ I₂ hq₂ fun d₃ ρ₃ g₃ vh s₃ hq₃ I₃ l₃ r₃ =>
    hst.then (a2 (a2 (a2 hc))) at_ I₃ hq₃ fun d₄ ρ₄ g₄ vs s₄ hq₄ I₄ l₄ r₄ => ?_)))
  obtain ⟨a, l, h, s', r, p0, p1, p2, p3, hr, hq⟩ := hq₄
  exact slice_seen I₄.here (I₄.seen (isVar_at (a1 hc)) p0) (r₂.mono (l₃.trans l₄)) (r₃.mono l₄) r₄ p1 p2 p3 hr (back_post' I₄ (l₂.trans (l₃.trans l₄)) hq)

theorem glob_name {f want : Str} {v : Value} {pos : Pos} {Q : Value → Shared → Prop} (D : BaseF B mg mb) (a : At B C n sc cx K A) (hs : PH.Sub (ofHeap B) s.heap) (hb : isBlt glo sc f want = true) (hm : want ∈ bltNames) (hne : want ≠ "__name__") (hv : bootBuiltins want = some v) (hq : Q v s) :
    wpAny (model prog w) A (eval (.Name f pos) cx.env) Q E s := by
  obtain rfl := eq_t (a1 hb)
  exact Name_function_global a.env.kind (a.kind (eq_t (a1 (a1 (a2 hb)))) nofun) (loadGlobal_builtin (mg := mg) (mb := mb) (a.env.glob.symm ▸ D.g.keeps hs) (D.free _ hm) (a.env.blt.symm ▸ D.b.keeps hs) ((D.builtins _ hne).trans hv) hq) (not_t (a2 (a1 (a2 hb))))

theorem backTo1 {x : Expr} {r : List Expr} {env : Env} {pos : Pos} (h : noStar x = true) : backTo pos (starEach (x :: r) env) = (false, eval x env) :: backTo pos (starEach r env) := by rw [star1 h]; rfl
theorem call_blt1 {id : String} {x : Expr} {pos p : Pos} {f : Str} {Q : Value → Shared → Prop} (hf : ∀ Q : Value → Shared → Prop, Q (.builtin id) s → wpAny (model prog w) A (eval (.Name f p) cx.env) Q E s) (hx : noStar x = true)
    (h : wpAny (model prog w) A (eval x cx.env) (fun v s' => wpAny (model prog w) A (call (.builtin id) [v]) Q E s') E s) : wpAny (model prog w) A (eval (.Call (.Name f p) [x] [] pos) cx.env) Q E s := by
  show wpAny _ A (eval (.Name f p) cx.env >>= fun fv => callWith pos fv [] (backTo pos (starEach [x] cx.env)) (backToKw pos (keywordEach [] cx.env))) _ _ s
  refine wpAny_bind (hf _ ?_)
  rw [backTo1 hx]
  exact callWith_builtin rfl (evalArgs_plain (spliced_cons (wpAny_mono h (fun v s' hv => spliced_nil hv) fun _ _ x => x)))
theorem call_typ1 {T : String} {x : Expr} {pos p : Pos} {f : Str} {Q : Value → Shared → Prop} (hf : ∀ Q : Value → Shared → Prop, Q (.type T) s → wpAny (model prog w) A (eval (.Name f p) cx.env) Q E s) (hx : noStar x = true)
    (h : wpAny (model prog w) A (eval x cx.env) (fun v s' => wpAny (model prog w) A (call (.type T) [v]) Q E s') E s) : wpAny (model prog w) A (eval (.Call (.Name f p) [x] [] pos) cx.env) Q E s := by
  show wpAny _ A (eval (.Name f p) cx.env >>= fun fv => callWith pos fv [] (backTo pos (starEach [x] cx.env)) (backToKw pos (keywordEach [] cx.env))) _ _ s
  refine wpAny_bind (hf _ ?_)
  rw [backTo1 hx]
  exact PySem.callWith_type rfl (evalArgs_plain (spliced_cons (wpAny_mono h (fun v s' hv => spliced_nil hv) fun _ _ x => x)))
theorem call_blt2 {id : String} {x y : Expr} {pos p : Pos} {f : Str} {Q : Value → Shared → Prop} (hf : ∀ Q : Value → Shared → Prop, Q (.builtin id) s → wpAny (model prog w) A (eval (.Name f p) cx.env) Q E s) (hx : noStar x = true) (hy : noStar y = true)
    (h : wpAny (model prog w) A (eval x cx.env) (fun v s' => wpAny (model prog w) A (eval y cx.env) (fun u s₂ => wpAny (model prog w) A (call (.builtin id) [v, u]) Q E s₂) E s') E s) : wpAny (model prog w) A (eval (.Call (.Name f p) [x, y] [] pos) cx.env) Q E s := by
  show wpAny _ A (eval (.Name f p) cx.env >>= fun fv => callWith pos fv [] (backTo pos (starEach [x, y] cx.env)) (backToKw pos (keywordEach [] cx.env))) _ _ s
  refine wpAny_bind (hf _ ?_)
  rw [backTo1 hx, backTo1 hy]
  exact callWith_builtin rfl (evalArgs_plain (spliced_cons (wpAny_mono h (fun v s' hv => spliced_cons (wpAny_mono hv (fun u s₂ hu => spliced_nil hu) fun _ _ x => x)) fun _ _ x => x)))

theorem len_seen {a : V} {i : Int} {va : Value} {Q : Value → Shared → Prop} (H : Here cx.env.locals g s) (sa : Seen cx g s.heap va a) (hr : lenV a = some i) (h : Back cx.C cx.env.locals s g (.int i) Q) : wpAny (model prog w) A (call (.builtin "len") [va]) Q E s := by
  cases a with
  | list l =>
    obtain ⟨hc, rfl⟩ := ite_some hr
    exact sa.listE H fun x vs k hx rx => call_len_list (lst_is hx) (small63 (n := vs.length) (rx.length ▸ hc)) ((show vs.toArray.size = _ from rx.length).symm ▸ Back.tokI H h)
  | tup l =>
    obtain ⟨hc, rfl⟩ := ite_some hr
    exact (sa.rep nofun).tupE H.frz fun x vs k _ hx rx => len_tuple (tup_is hx) (small63 (n := vs.length) (rx.length ▸ hc)) ((show vs.toArray.size = _ from rx.length).symm ▸ Back.tokI H h)
  | str x =>
    obtain ⟨hc, rfl⟩ := ite_some hr
    exact (sa.rep nofun).strE fun t => PyProof.Rows.len_str (Int.not_le.mpr (small63 hc)) (Back.tokI H h)
  | _ => exact nomatch (show none = some i from hr)
theorem snd_len {a : CE} (D : BaseF B mg mb) (ha : SndE prog w B C n Sp a) : SndE prog w B C n Sp (.len a) := by
  intro sc cx K g₀ s₀ val ρ g s A E Q e hc at_ I hw
  exact eCallN_el hc fun f p es pos hc => one_el hc fun x hc => call_blt1 (fun Q hq => glob_name D at_ (I.sub at_) (a1 hc) (by decide) (by decide) boot_len hq) (a1 (a2 hc)) (ha.then (a2 (a2 hc)) at_ I hw fun d ρ₁ g₁ va s₁ hq I₁ l₁ r₁ =>
    hq.elim fun i h => len_seen I₁.here (.fro r₁) h.1 (back_post' I₁ l₁ h.2))
theorem snd_lenv {x : Nat} (D : BaseF B mg mb) : SndE prog w B C n Sp (.lenv x) := by
  intro sc cx K g₀ s₀ val ρ g s A E Q e hc at_ I hw
  obtain ⟨a, i, h1, h2, hq⟩ := hw
  exact eCallN_el hc fun f p es pos hc => one_el hc fun y hc => eName_el (P := fun y => wpAny _ A (eval (.Call (.Name f p) [y] [] pos) cx.env) _ E s) (a2 hc) fun id p' hv =>
    call_blt1 (fun Q hq => glob_name D at_ (I.sub at_) (a1 hc) (by decide) (by decide) boot_len hq) rfl (name_var at_ I hv h1 (len_seen I.here (I.seen (isVar_at hv) h1) h2 (back_post I hq)))
end
end Mine

-- part 10
namespace Mine
section
variable {prog : Program} {w : World} {B : Heap} {C : Addr} {mg mb : Str → Option Value} {n : Nat} {Sp : Nat → List V → V → Prop}
variable {cx : Cx} {K g₀ g : PH} {s₀ s : Shared} {val : Nat → Value} {ρ : List Slot} {A : Around} {E : Value → Shared → Prop} {sc : Scope}

theorem Seen.reads {v : Value} {d : V} {k : Nat} (hf : PH.Sub g s.heap) (sa : Seen cx g s.heap v d) (hp : V.plain (k + 1) d = true) : ∃ as, Reads s.heap v (toPy d) as := by
  cases sa with
  | fro r => exact reads_of hf _ r hp
  | own hx rx => exact (reads_all (fun d hd v r => reads_of hf _ r (plain_all.mp hp d hd)) rx).elim fun as q => ⟨_, reads_list_at hx rfl rfl q⟩
theorem any_of {k : Nat} {d : V} (hd : V.plain k d = true) : ∀ (ds : List V), (∀ e ∈ ds, V.plain k e = true) → ((toPys ds).any (fun y => PyData.eqv y (toPy d)) = true ↔ d ∈ ds)
  | [], _ => ⟨nofun, nofun⟩
  | e :: ds, h => (Bool.or_eq_true_iff.trans (or_congr (eqv_of k e d (h e (.head _)) hd) (any_of hd ds fun x hx => h x (.tail _ hx)))).trans ((or_congr eq_comm Iff.rfl).trans List.mem_cons.symm)
theorem plain_up {k : Nat} {d : V} (h : V.plain k d = true) : V.plain (k + 1) d = true :=
  plainR (P := fun k d => V.plain (k + 1) d = true) (fun _ _ => rfl) (fun _ _ _ ih => plain_all.mpr ih) (fun _ _ _ ih => plain_allT.mpr ih) k d h
theorem mem_seen {no : Bool} {a : V} {l : List V} {va vl : Value} {op : CmpOp} {Q : Value → Shared → Prop} (hop : (if no then op == .NotIn else op == .In) = true) (H : Here cx.env.locals g s) (hu : A.units + 64 < cLine) (ra : Rep cx.C g va a) (sl : Seen cx g s.heap vl (.list l))
    (h1 : V.plain 4 a = true) (h2 : V.plain 4 (.list l) = true) (h : ∀ r : Bool, (r = true ↔ a ∈ l) → Q (.bool (r != no)) s) : wpAny (model prog w) A (compareOp op va vl) Q E s := by
  obtain ⟨as, q1⟩ := reads_of H.frz 4 ra h1
  obtain ⟨bs, q2⟩ := sl.reads H.frz h2
  have la := lay_of 4 a h1
  have ll : PyData.canLayAll0 (toPys l) = true ∧ PyData.depthAll (toPys l) + 1 ≤ 4 := lay_of 4 _ h2
  replace q2 : Reads s.heap vl (.list (toPys l)) bs := q2
  have hq := h _ (any_of h1 l fun v hv => plain_up (plain_all.mp h2 v hv))
  have hm := Nat.min_le_right (PyData.depthAll (toPys l)) (toPy a).depth
  have lay := la.2
  cases no with
  | true =>
    obtain rfl : op = .NotIn := eq_t hop
    exact SeqAt.notIn_list_reads q2 q1 ll.1 la.1 (by omega) (by rwa [Bool.bne_true] at hq)
  | false =>
    obtain rfl : op = .In := eq_t hop
    exact SeqAt.in_list_reads q2 q1 ll.1 la.1 (by omega) (by rwa [Bool.bne_false] at hq)
theorem snd_mem {no : Bool} {a : CE} {x : Nat} (ha : SndE prog w B C n Sp a) : SndE prog w B C n Sp (.mem no a x) := by
  intro sc cx K g₀ s₀ val ρ g s A E Q e hc at_ I hw
  exact eCmp_el hc fun l ops rs p hc => one_el hc fun o hc => one_el hc fun r hc => eName_el (P := fun r => wpAny _ A (eval (.Compare l [o] [r] p) cx.env) _ E s) (a2 (a2 hc)) fun id p' h2 =>
    wpAny_Compare1 (ha.then (a1 (a2 hc)) at_ I hw fun d ρ₁ g₁ va s₁ hq I₁ l₁ r₁ => hq.elim fun l h => name_var at_ I₁ h2 h.1 (mem_seen (a1 hc) I₁.here (units64 at_) r₁ (I₁.seen (isVar_at h2) h.1) h.2.1 h.2.2.1 fun r hr => ⟨_, ρ₁, g₁, h.2.2.2.2 r hr, I₁, l₁, .bool _⟩)) (noSet_marks rfl)
theorem snd_ne0 {x : Nat} : SndE prog w B C n Sp (.ne0 x) := by
  intro sc cx K g₀ s₀ val ρ g s A E Q e hc at_ I hw
  refine eCmp_el hc fun l ops rs p hc => one_el hc fun o hc => one_el hc fun r hc => ?_
  obtain rfl := eq_t (a1 hc)
  refine eName_el (P := fun l => wpAny _ A (eval (.Compare l [.NotEq] [r] p) cx.env) _ E s) (a2 hc) fun id p' hc => eList_el (P := fun r => wpAny _ A (eval (.Compare (.Name id p') [.NotEq] [r] p) cx.env) _ E s) (a2 hc) fun es p'' he =>
    nil0_el (P := fun es => wpAny _ A (eval (.Compare (.Name id p') [.NotEq] [.List es p''] p) cx.env) _ E s) he ?_
  have hv := a1 hc
  obtain ⟨l, p1, p2, hq⟩ := hw
  refine wpAny_Compare1 (name_var at_ I hv p1 ?_) (noSet_marks rfl)
  rw [arm_eval_List]
  refine wpAny_bind (wpAny_standAt (wpAny_bind (spliced_nil (wpAny_newList ?_ (by decide)))))
  have e := Ext.push (L := cx.env.locals) (tk := s.toks) (o := lstObj [] 0) I.frz I.gL I.ltL rfl
  have I' := I.ext e
  obtain ⟨as, q1⟩ := (I'.seen (isVar_at hv) p1).reads I'.frz p2
  obtain ⟨bs, q2⟩ := reads_of I'.frz 4 (Rep.list (C := cx.C) (ds := []) (PH.put_self g s.heap.objs.size (lstObj [] 0)) .nil) rfl
  refine ne_dataH q1 q2 (shaped_of p2 (by decide)) rfl (units64 at_) ?_
  have : (!(toPy (.list l)).eqv (toPy (.list []))) = !l.isEmpty := congrArg not (Bool.eq_iff_iff.mpr ((eqv_of 4 (.list l) (.list []) p2 rfl).trans ((show V.list l = .list [] ↔ l = [] from ⟨V.list.inj, congrArg _⟩).trans List.isEmpty_iff.symm)))
  rw [this]
  exact ⟨_, ρ, _, hq, I', e.le, .bool _⟩

theorem snd_max {a b : CE} (D : BaseF B mg mb) (ha : SndE prog w B C n Sp a) (hb : SndE prog w B C n Sp b) : SndE prog w B C n Sp (.max a b) := by
  intro sc cx K g₀ s₀ val ρ g s A E Q e hc at_ I hw
  refine eCallN_el hc fun f p es pos hc => two_el hc fun x y hc => call_blt2 (id := "max") (fun Q hq => glob_name D at_ (I.sub at_) (a1 hc) (by decide) (by decide) (by decide +kernel) hq) (a1 (a2 hc)) (a1 (a2 (a2 hc)))
    (ha.then (a1 (a2 (a2 (a2 hc)))) at_ I hw fun d ρ₁ g₁ va s₁ hq I₁ l₁ r₁ => hb.then (a2 (a2 (a2 (a2 hc)))) at_ I₁ hq fun d₂ ρ₂ g₂ vb s₂ hq₂ I₂ l₂ r₂ => ?_)
  obtain ⟨x, y, rfl, rfl, hq⟩ := hq₂
  obtain ⟨m, hm⟩ := I₂.ns
  refine r₁.intE fun t => r₂.intE fun u => max_two_N at_.a.handled (fr_all hm) (news_all s₂.heap cx.env.locals) fun h' tk F' N' => ?_
  have hk := kept_all N' fun p hp => hp
  exact ⟨_, ρ₂, g₂, hq, I₂.ext ⟨hk, ns_all hm F', .refl _, fun b o e => hk b o (ne_of I₂.gL e) (I₂.frz b o e), fun _ _ e => .inl e, .of⟩, l₁.trans l₂, .int _ _⟩

theorem nums_eq : ∀ {l : List V} {ns : List Int}, numsV l = some ns → l = intsV ns
  | [], _, h => by cases Option.some.inj h; rfl
  | v :: r, ns, h => by
    obtain ⟨i, rfl, h⟩ := onInt_inv (k := fun i => (numsV r).map (i :: ·)) h
    obtain ⟨m, q, rfl⟩ := Option.map_eq_some_iff.mp h
    exact congrArg (V.int i :: ·) (nums_eq q)
theorem sum_base {l : Addr} {vs : List Value} {ns : List Int} {Q : Value → Shared → Prop} (hh : A.handled = none) (hl : s.heap.IsList l vs.toArray) (hi : IntsAre vs ns)
    (h : ∀ h' tk t', (∀ b o, s.heap.get? b = some o → h'.get? b = some o) → Q (.int ns.sum t') { s with heap := h', toks := tk }) : wpAny (model prog w) A (call (.builtin "sum") [.ref l]) Q E s := by
  obtain ⟨xs, e⟩ := hi.allInts.items
  rw [e] at hl
  refine sum_intListG hh hl fun h' tk t' hk => ?_
  rw [preSum_eq, List.take_of_length_le (by simp)]
  have e2 : ns = xs.toList.map (·.1) := by
    have := hi.numsOf
    rw [show vs = (intItems xs).toList by rw [← e]] at this
    rw [← this, nums_intItems]
  exact e2 ▸ h h' tk t' hk
theorem snd_sum {a : CE} (D : BaseF B mg mb) (ha : SndE prog w B C n Sp a) : SndE prog w B C n Sp (.sum a) := by
  intro sc cx K g₀ s₀ val ρ g s A E Q e hc at_ I hw
  refine eCallN_el hc fun f p es pos hc => one_el hc fun x hc => call_blt1 (id := "sum") (fun Q hq => glob_name D at_ (I.sub at_) (a1 hc) (by decide) (by decide) (by decide +kernel) hq) (a1 (a2 hc)) (ha.then (a2 (a2 hc)) at_ I hw fun d ρ₁ g₁ va s₁ hq I₁ l₁ r₁ => ?_)
  obtain ⟨l, ns, rfl, hn, _, hq⟩ := hq
  cases nums_eq hn
  exact r₁.listE I₁.frz fun x vs k _ hx rx => sum_base at_.a.handled (lst_is hx) rx.ints fun h' tk t' hk => back_post' I₁ l₁ hq _ _ g₁ (.of I₁.frz hk) (.int _ _)
theorem snd_tuple {a : CE} (D : BaseF B mg mb) (ha : SndE prog w B C n Sp a) : SndE prog w B C n Sp (.tuple a) := by
  intro sc cx K g₀ s₀ val ρ g s A E Q e hc at_ I hw
  refine eCallN_el hc fun f p es pos hc => one_el hc fun x hc => call_typ1 (T := "tuple") (fun Q hq => glob_name D at_ (I.sub at_) (a1 hc) (by decide) (by decide) (by decide +kernel) hq) (a1 (a2 hc)) (ha.then (a2 (a2 hc)) at_ I hw fun d ρ₁ g₁ va s₁ hq I₁ l₁ r₁ => ?_)
  obtain ⟨l, rfl, hn, hq⟩ := hq
  refine r₁.listE I₁.frz fun x vs k _ hx rx => call_tuple_list (lst_is hx) (fun h' hk => ?_) (size_ok (n := vs.length) (rx.length ▸ hn))
  have e1 : Ext cx.env.locals s₁ g₁ { s₁ with heap := h' } g₁ := Ext.of (tk := s₁.toks) I₁.frz hk
  exact Back.pushT (n := 0) (tk := s₁.toks) (I₁.here.ext e1) rx fun v s' g' e r => back_post' I₁ l₁ hq v s' g' (e1.trans e) r
end
end Mine

-- part 11
namespace Mine
section
variable {prog : Program} {w : World} {B : Heap} {C : Addr} {mg mb : Str → Option Value} {n : Nat} {Sp : Nat → List V → V → Prop}
variable {cx : Cx} {K g₀ g : PH} {s₀ s : Shared} {val : Nat → Value} {ρ : List Slot} {A : Around} {E : Value → Shared → Prop} {sc : Scope}

theorem base_of {o : Expr} {name : Str} {env : Env} {whole : Sem Value} (h : notSuper o = true) : attributeBase o name env whole = whole := by
  cases o <;> first | rfl | exact nomatch h
theorem few_of {args : List Expr} {env : Env} {pos : Pos} {trees : List (Bool × Sem Value)} (ht : backTo pos (starEach args env) = trees) (h1 : trees.all (fun x => !x.1) = true) (h2 : args.length < 16) :
    ((((backTo pos (starEach args env)).all fun x => !x.fst) && (backToKw pos (keywordEach [] env)).all fun x => x.fst.isSome) && decide ((args.length + ([] : List Keyword).length + if ([] : List Keyword).isEmpty = true then 0 else 1) < 30)) = true := by
  rw [ht, h1]
  exact decide_eq_true (Nat.lt_of_lt_of_le h2 (by decide) : args.length < 30)

theorem strs_of : ∀ {l : List V} {ss : List Str} {vs : List Value}, strsV l = some ss → Reps cx.C g vs l → ∃ ps : List (Str × Tok), vs = strValues ps ∧ ps.map (·.1) = ss
  | [], ss, vs, h, r => ⟨[], r, Option.some.inj h⟩
  | v :: l, ss, vs, h, r => by
    obtain ⟨x, rfl, h⟩ := onStr_inv (k := fun i => (strsV l).map (i :: ·)) h
    obtain ⟨m, q, rfl⟩ := Option.map_eq_some_iff.mp h
    obtain ⟨_, vs, rfl, ⟨t, rfl⟩, rs⟩ := r
    obtain ⟨ps, rfl, rfl⟩ := strs_of q rs
    exact ⟨(x, t) :: ps, rfl, rfl⟩
theorem reps_strs : ∀ (ps : List (Str × Tok)), Reps cx.C g (strValues ps) ((ps.map (·.1)).map .str)
  | [] => .nil
  | (x, t) :: ps => .cons (.str x t) (reps_strs ps)

theorem snd_join {a b : CE} (ha : SndE prog w B C n Sp a) (hb : SndE prog w B C n Sp b) : SndE prog w B C n Sp (.join a b) := by
  intro sc cx K g₀ s₀ val ρ g s A E Q e hc at_ I hw
  refine eCallM_el hc fun o m p es pos h1 hc => one_el hc fun y hc => ?_
  obtain rfl := eq_t (a1 hc)
  refine wpAny_Call_method_late (base_of (a1 (a2 hc))) (few_of (backTo1 (a1 (a2 (a2 hc)))) rfl (by decide : 1 < 16)) (beq_iff_eq.mpr h1) (backTo1 (a1 (a2 (a2 hc)))) (ha.then (a1 (a2 (a2 (a2 hc)))) at_ I hw fun d ρ₁ g₁ va s₁ hq I₁ l₁ r₁ => ?_)
  obtain ⟨x, rfl, hq⟩ := hq
  refine r₁.strE fun t => PySem.SB.join (hb.then (a2 (a2 (a2 (a2 hc)))) at_ I₁ hq fun d₂ ρ₂ g₂ vb s₂ hq₂ I₂ l₂ r₂ => ?_)
  obtain ⟨l, ss, rfl, hs, hok, hq⟩ := hq₂
  obtain ⟨y, vs, k, rfl, _, hy, ry⟩ := r₂.list_inv I₂.frz
  obtain ⟨ps, rfl, hp⟩ := strs_of hs ry
  exact ⟨y, ps, rfl, lst_is hy, ss, hp, joinOk_of (by omega), fun t' k' => Back.tokS I₂.here (back_post' I₂ (l₁.trans l₂) hq)⟩

theorem snd_split {a b : CE} (ha : SndE prog w B C n Sp a) (hb : SndE prog w B C n Sp b) : SndE prog w B C n Sp (.split a b) := by
  intro sc cx K g₀ s₀ val ρ g s A E Q e hc at_ I hw
  refine eCallM_el hc fun o m p es pos h1 hc => one_el hc fun y hc => ?_
  obtain rfl := eq_t (a1 hc)
  refine wpAny_Call_method_late (base_of (a1 (a2 hc))) (few_of (backTo1 (a1 (a2 (a2 hc)))) rfl (by decide : 1 < 16)) (beq_iff_eq.mpr h1) (backTo1 (a1 (a2 (a2 hc)))) (ha.then (a1 (a2 (a2 (a2 hc)))) at_ I hw fun d ρ₁ g₁ va s₁ hq I₁ l₁ r₁ => ?_)
  obtain ⟨x, rfl, hq⟩ := hq
  refine r₁.strE fun t => ⟨"str", "str.split", PySem.F.plainAttrs_str, PySem.F.slot_str_split, PySem.F.type_str_split, typeIs_str _ _ _, nofun, callWith_builtin rfl (evalArgs_plain (spliced_cons (hb.then (a2 (a2 (a2 (a2 hc)))) at_ I₁ hq fun d₂ ρ₂ g₂ vb s₂ hq₂ I₂ l₂ r₂ => spliced_nil ?_)))⟩
  obtain ⟨y, rfl, hy, hx, hq⟩ := hq₂
  obtain ⟨m, hm⟩ := I₂.ns
  refine r₂.strE fun u => splitN1 (fr_all hm) (news_all s₂.heap cx.env.locals) (by rw [hy]; rfl) (fun l h' k e F' N' => ?_) (by rw [sizeLine_eq]; omega)
  have hD := N' _ (List.mem_cons_self ..)
  have ee := Ext.add (tk := k) I₂.frz I₂.gL (kept_all N' fun p hp => List.mem_cons_of_mem _ hp) (ns_all hm F') hD.2.1 (fresh_size _) hD.1
  exact back_post' I₂ (l₁.trans l₂) hq _ _ _ ee (.list (vs := strValues l) (n := 0) (PH.put_self ..) (e ▸ (reps_strs l).mono ee.le))

theorem mapSeq_lst {vs vs' : List Value} {k : Nat} {f : Array Value → Array Value} (h : f vs.toArray = vs'.toArray) : ∃ k', (lstObj vs k).mapSeq f = lstObj vs' k' :=
  ⟨_, by unfold Obj.mapSeq lstObj; simp only [h]; rfl⟩
theorem ns_but {h h' : Heap} {a b : Addr} {m : Str → Option Value} {vs : List Value} {k : Nat} (ha : h.get? a = some (lstObj vs k)) (hk : ∀ b o, b ≠ a → h.get? b = some o → h'.get? b = some o) (hn : h.Ns b m) : h'.Ns b m :=
  hn.elim fun o hn => hn.elim fun es hn => hn.elim fun ep hn => ⟨o, es, ep, hk b o (fun e => nomatch (congrArg Obj.data (soms ha (e ▸ hn.1))).trans hn.2.1) hn.1, hn.2⟩
theorem loads_but {h h' : Heap} {a : Addr} {env : Env} {x : Str} {v : Value} {vs : List Value} {k : Nat} (ha : h.get? a = some (lstObj vs k)) (hk : ∀ b o, b ≠ a → h.get? b = some o → h'.get? b = some o) (l : Loads env h x v) : Loads env h' x v :=
  l.keep (fun m => ns_but ha hk) fun c o w _ _ h1 h2 => hk c o (fun e => nomatch (congrArg Obj.data (soms ha (e ▸ h1))).trans h2) h1
theorem Inv.setOwn2 {i : Nat} {x : Str} {l l' : List V} {a : Addr} {vs' : List Value} {k' tk : Nat} {h' : Heap} (I : Inv cx K g₀ s₀ val ρ g s) (hx : cx.vars[i]? = some x) (hi : ρ.getD i .undef = .own l) (hv : val i = .ref a)
    (keepO : ∀ b o, b ≠ a → s.heap.get? b = some o → h'.get? b = some o) (hself : h'.get? a = some (lstObj vs' k')) (r : Reps cx.C g vs' l') : Inv cx K g₀ s₀ val (ρ.set i (.own l')) g { s with heap := h', toks := tk } := by
  refine I.own hx hi fun a' vs₀ k₀ O => ?_
  obtain rfl : a = a' := Value.ref.inj (hv.symm.trans O.val)
  have hlt := I.lt hx
  refine ⟨fun b o e => keepO b o (ne_of O.g e) (I.frz b o e), fun b o e => keepO b o (ne_of O.K e) (I.keep b o e), I.le₀, I.new, I.rest.trans .of, fun j y hy => ?_, fun j k l₁ l₂ hj hk' hval => ?_, fun b hb => ?_, I.ns.elim fun m hm => ⟨m, ns_but O.obj keepO hm⟩, I.lp, (List.length_set ..).trans I.len,
    fun c hc hne => let ⟨v, o, h1, h2⟩ := I.cells c hc hne; ⟨v, o, keepO c o (mem_ne hc O.P) h1, h2⟩⟩
  · by_cases hj : j = i
    · subst hj
      cases soms hx hy
      rw [getD_at hlt]
      exact ⟨loads_but O.obj keepO O.ld, a, vs', hv, ⟨k', hself⟩, r, O.g, O.K, O.P⟩
    · rw [getD_ne hlt hj]
      exact (I.slot j y hy).to (loads_but O.obj keepO) (fun _ _ r => r) fun l₂ q b ws m O' => ⟨O'.reps, ⟨m, keepO b _ (I.apart hi q O O' hj) O'.obj⟩, O'.g, O'.K⟩
  · by_cases q1 : j = i <;> by_cases q2 : k = i
    · rw [q1, q2]
    · subst q1; exact I.inj _ _ _ _ hi ((getD_ne hlt q2).symm.trans hk') hval
    · subst q2; exact I.inj _ _ _ _ ((getD_ne hlt q1).symm.trans hj) hi hval
    · exact I.inj _ _ _ _ ((getD_ne hlt q1).symm.trans hj) ((getD_ne hlt q2).symm.trans hk') hval
  · have p := I.priv b hb
    exact ⟨p.1, p.2.1, p.2.2.elim fun o h => ⟨o, keepO b o (mem_ne hb O.P) h⟩⟩

theorem Reps.dropLast {vs : List Value} {ds : List V} (h : Reps C g vs ds) : Reps C g vs.dropLast ds.dropLast := by
  rw [List.dropLast_eq_take, List.dropLast_eq_take, h.length]
  exact h.take _
theorem Reps.getLast {vs : List Value} {ds : List V} {d : V} (h : Reps C g vs ds) (hd : ds.getLast? = some d) : ∃ v, vs.getLast? = some v ∧ Rep C g v d := by
  rw [List.getLast?_eq_getElem?] at hd ⊢
  rw [h.length]
  exact h.get hd
theorem snd_pop {x : Nat} : SndE prog w B C n Sp (.pop x) := by
  intro sc cx K g₀ s₀ val ρ g s A E Q e hc at_ I hw
  refine eCallM_el hc fun o m p es pos h1 hc => ?_
  obtain rfl := eq_t (a1 (a2 hc))
  refine nil0_el (P := fun es => wpAny _ A (eval (.Call (.Attribute o "pop" p) es [] pos) cx.env) _ E s) (a1 hc) (eName_el (P := fun o => wpAny _ A (eval (.Call (.Attribute o "pop" p) [] [] pos) cx.env) _ E s) (a2 (a2 hc)) fun id p' h2 => ?_)
  replace hw : (match ρ.getD x .undef with | .own l => ∃ v, l.getLast? = some v ∧ l.length ≤ 1048576 ∧ Q v (ρ.set x (.own l.dropLast)) | _ => False) := hw
  cases q : ρ.getD x .undef with
  | undef => rw [q] at hw; exact hw.elim
  | fro v => rw [q] at hw; exact hw.elim
  | own l =>
    rw [q] at hw
    obtain ⟨d, hl, hlen, hq⟩ := hw
    refine wpAny_Call_method_late (base_of rfl) (few_of (trees := []) rfl rfl (by decide : 0 < 16)) (beq_iff_eq.mpr h1) (trees := []) rfl (name_var at_ I h2 (congrArg slotV q) (I.own (isVar_at h2) q fun a vs k O => ?_))
    rw [O.val]
    obtain ⟨v, hv1, hv2⟩ := O.reps.getLast hl
    have hlast : vs.toArray[vs.toArray.size - 1]? = some v := (List.getElem?_toArray ..).trans ((List.getLast?_eq_getElem? ..).symm.trans hv1)
    refine ⟨"list", "list.pop", PySem.F.plainAttrs_list, PySem.F.slot_list_pop, PySem.F.type_list_pop, ⟨_, O.obj, rfl⟩, fun b hb => Value.ref.inj hb ▸ ⟨_, O.obj, rfl⟩, ?_⟩
    refine method0_meets PySem.F.slot_list_pop PySem.F.entry_list_pop ⟨_, O.obj, rfl⟩ (PySem.F.args_list_pop_1 _) (MeetsSeq.list_pop_last a vs.toArray k v hlast (size_ok (n := vs.length) (O.reps.length ▸ hlen))) ⟨O.obj, ?_⟩
    have hpos : vs.length - 1 < vs.length := Nat.sub_lt (List.length_pos_iff.mpr fun e => nomatch (show ([] : List Value).getLast? = some v from e ▸ hv1)) Nat.one_pos
    have e1 : vs.toArray.eraseIdxIfInBounds (vs.toArray.size - 1) = vs.dropLast.toArray := by
      rw [← List.eraseIdx_length_sub_one]
      unfold Array.eraseIdxIfInBounds
      rw [dif_pos (show vs.toArray.size - 1 < vs.toArray.size from hpos)]
      simp
    obtain ⟨k', e2⟩ := mapSeq_lst (k := k) (f := fun xs => xs.eraseIdxIfInBounds (vs.toArray.size - 1)) e1
    exact ⟨d, _, g, hq, I.setOwn2 (tk := s.toks) (isVar_at h2) q O.val (fun b o hb e => (Heap.SameBut.update ..).extBut b o hb e) ((Heap.get?_update_self (Obj.mapSeq _) O.obj (e2 ▸ rfl)).trans (congrArg some e2)) O.reps.dropLast, .refl g, hv2⟩
end
end Mine

-- part 12
namespace Mine
section
variable {prog : Program} {w : World} {B : Heap} {C : Addr} {mg mb : Str → Option Value} {n : Nat} {Sp : Nat → List V → V → Prop}
variable {cx : Cx} {K g₀ g : PH} {s₀ s : Shared} {val : Nat → Value} {ρ : List Slot} {A : Around} {E : Value → Shared → Prop} {sc : Scope}

theorem snd_attr {a : CE} {f : Nat} (S : AttrOk prog w B C) (ha : SndE prog w B C n Sp a) : SndE prog w B C n Sp (.attr a f) := by
  intro sc cx K g₀ s₀ val ρ g s A E Q e hc at_ I hw
  obtain rfl := at_.cls
  refine eAttr_el hc fun o m pos hc => ?_
  obtain rfl := eq_t (a1 hc)
  have hb : attributeBase o (attrName f) cx.env (eval o cx.env) = eval o cx.env := eName_el (P := fun o => attributeBase o _ _ (eval o cx.env) = eval o cx.env) (a2 (a2 hc)) fun _ _ _ => rfl
  rw [arm_eval_Attribute, hb]
  exact wpAny_bind (ha.then (a1 (a2 hc)) at_ I hw fun d ρ₁ g₁ va s₁ hq I₁ l₁ r₁ => wpAny_bind (wpAny_standAt (wpAny_bind (wpAny_holding (hq.elim fun r hq => S A s₁ g₁ cx.env.locals _ _ va d f r (I₁.sub at_) I₁.here r₁ hq.1 fun v s' g' e r' =>
    wpAny_bind (wpAny_letTemporaryGo (wpAny_pure (back_post' I₁ l₁ hq.2 v s' g' e r'))))))))

theorem glob_fn {f : Str} {v : Value} {pos : Pos} {Q : Value → Shared → Prop} (D : BaseF B mg mb) (a : At B C n sc cx K A) (hs : PH.Sub (ofHeap B) s.heap) (hb : isGlob sc f = true) (hv : mg f = some v) (hq : Q v s) :
    wpAny (model prog w) A (eval (.Name f pos) cx.env) Q E s :=
  Name_function_global a.env.kind (a.kind (eq_t (a1 hb)) nofun) (loadGlobal_global (mg := mg) (a.env.glob.symm ▸ D.g.keeps hs) hv hq) (not_t (a2 hb))

theorem args_sound {f : Value} {pos : Pos} {l : List CE} {es : List Expr} {Q : List V → List Slot → Prop} {R : Args → Shared → Prop} (hl : SndL prog w B C n Sp l) (hc : chkEs glo sc cx.vars l es = true) (at_ : At B C n sc cx K A) (I : Inv cx K g₀ s₀ val ρ g s) (hw : wpEs Sp l ρ Q)
    (hr : ∀ vs s', PostL cx K g₀ s₀ val g Q vs s' → R ⟨vs, []⟩ s') : wpAny (model prog w) A (evalArgs f true (backTo pos (starEach es cx.env)) []) R E s := by
  have key := spliced_sound (pos := pos) (E := E) hl hc at_ I hw
  cases l with
  | nil => exact nil0_el hc (PySem.evalArgs_none (hr _ _ ⟨[], ρ, g, hw, I, .refl g, .nil⟩))
  | cons c cs =>
    revert key
    refine unc_el hc fun e es hc key => ?_
    rw [backTo1 (a1 (a2 hc))] at key ⊢
    exact evalArgs_plain (wpAny_mono key (fun vs s' p => hr vs s' p.2) fun _ _ x => x)
theorem snd_call {f : Nat} {args : List CE} (S : Snd prog w B C mg mb n Sp) (hl : SndL prog w B C n Sp args) : SndE prog w B C n Sp (.call f args) := by
  intro sc cx K g₀ s₀ val ρ g s A E Q e hc at_ I hw
  obtain rfl := at_.cls
  refine eCallN_el hc fun fnm p es pos hc => ?_
  obtain ⟨a, hm, hcl, hk⟩ := S.fn _ _ (eq_t (a1 hc))
  rw [arm_eval_Call_Name']
  refine wpAny_bind (glob_fn S.base at_ (I.sub at_) (a1 (a2 hc)) hm (hcl A s E _ pos [] _ (args_sound hl (a2 (a2 hc)) at_ I hw fun vs s₁ p => ?_)))
  obtain ⟨ds, ρ₁, g₁, ⟨r, hr, hq⟩, I₁, l₁, r₁⟩ := p
  exact ⟨I₁.sub at_, hk ds r hr A s₁ g₁ cx.env.locals E _ vs at_.a (I₁.sub at_) I₁.here r₁ (back_post' I₁ l₁ hq)⟩

theorem Inv.lend {i : Nat} {x : Str} {d : V} (I : Inv cx K g₀ s₀ val ρ g s) (hx : cx.vars[i]? = some x) (hd : slotV (ρ.getD i .undef) = some d) : ∃ g', PH.le g g' ∧ Here cx.env.locals g' s ∧ Rep cx.C g' (val i) d := by
  cases q : ρ.getD i .undef with
  | undef => exact nomatch (congrArg slotV q).symm.trans hd
  | fro v => cases Option.some.inj ((congrArg slotV q).symm.trans hd); exact ⟨g, .refl g, I.here, (I.fro hx q).2⟩
  | own l => cases Option.some.inj ((congrArg slotV q).symm.trans hd); exact (I.freeze hx q).elim fun g' h => ⟨g', h.1, h.2.1.here, h.2.2⟩
theorem snd_callv {f x : Nat} {b : CE} (S : Snd prog w B C mg mb n Sp) (hb : SndE prog w B C n Sp b) : SndE prog w B C n Sp (.callv f x b) := by
  intro sc cx K g₀ s₀ val ρ g s A E Q e hc at_ I hw
  obtain rfl := at_.cls
  refine eCallN_el hc fun fnm p es pos hc => two_el hc fun z y hc => eName_el (P := fun z => wpAny _ A (eval (.Call (.Name fnm p) [z, y] [] pos) cx.env) _ E s) (a2 (a2 hc)) fun id p2 hv => ?_
  obtain ⟨d, hd⟩ := some_of_ne hw.1
  obtain ⟨a, hm, hcl, hk⟩ := S.fn _ _ (eq_t (a1 hc))
  rw [arm_eval_Call_Name']
  refine wpAny_bind (glob_fn S.base at_ (I.sub at_) (a1 (a2 hc)) hm ?_)
  rw [backTo1 rfl, backTo1 (a1 (a2 hv))]
  refine hcl A s E _ pos [] _ (evalArgs_plain (spliced_cons (name_var at_ I (a1 hv) hd (spliced_cons (hb.then (a2 (a2 hv)) at_ I hw.2 fun d₁ ρ₁ g₁ vb s₁ hq I₁ l₁ r₁ => spliced_nil ?_)))))
  obtain ⟨va, i, hs, hsp, hq⟩ := hq
  obtain ⟨g', hle, H', rv⟩ := I₁.lend (isVar_at (a1 hv)) hs
  refine ⟨I₁.sub at_, hk _ _ hsp A s₁ g' cx.env.locals E _ _ at_.a (I₁.sub at_) H' (.cons rv (.cons (r₁.mono hle) .nil)) fun v s' g'' e r => r.intE fun t => ?_⟩
  exact back_post' I₁ l₁ hq _ s' g₁ ⟨e.keep, e.ns, .refl _, fun b o z => e.frz b o (e.le b o (hle b o z)), fun _ _ z => .inl z, e.rest⟩ (.int _ _)

theorem args_all {pos : Pos} : ∀ {l : List CE} {es : List Expr}, chkEs glo sc cx.vars l es = true → (backTo pos (starEach es cx.env)).all (fun x => !x.1) = true
  | [], _, h => nil0_el h rfl
  | _ :: _, _, h => unc_el h fun e es h => by rw [backTo1 (a1 (a2 h))]; exact args_all (a2 (a2 h))
theorem snd_mcall {a : CE} {f : Nat} {args : List CE} (S : Snd prog w B C mg mb n Sp) (ha : SndE prog w B C n Sp a) (hl : SndL prog w B C n Sp args) : SndE prog w B C n Sp (.mcall a f args) := by
  intro sc cx K g₀ s₀ val ρ g s A E Q e hc at_ I hw
  obtain rfl := at_.cls
  refine eCallM_el hc fun o m p es pos hp hc => ?_
  obtain ⟨fa, hm, hcl, hk⟩ := S.me _ _ (eq_t (a1 hc))
  have h6 := a2 (a2 (a2 (a2 hc)))
  have hform : methodCallForm (es.length + ([] : List Keyword).length) (backTo pos (starEach es cx.env)) (backToKw pos (keywordEach [] cx.env)) = true := few_of rfl (args_all h6) (of_decide_eq_true (a1 (a2 (a2 hc))))
  have hpos : methodCallPos true o cx.env p pos = pure pos := by unfold methodCallPos; simp [hp]
  rw [arm_eval_Call, base_of (a1 (a2 hc))]
  refine wpAny_bind (ha.then (a1 (a2 (a2 (a2 hc)))) at_ I hw fun d ρ₁ g₁ va s₁ hq I₁ l₁ r₁ => wpAny_bind (wpAny_standAt ?_))
  obtain ⟨⟨wn, wnt, wc, wb, ws, rfl⟩, hq⟩ := hq
  unfold methodCall
  rw [hform]
  refine wpAny_bind (wpAny_holding (hm A s₁ g₁ cx.env.locals _ _ va _ _ _ _ _ _ (I₁.sub at_) I₁.here r₁ fun tk => ?_))
  have I₂ := I₁.ext (Ext.tok (L := cx.env.locals) (tk := tk) I₁.frz)
  refine wpAny_bind (wpAny_of_eq hpos (hcl A _ E _ pos [va] _ (args_sound hl h6 at_ I₂ hq fun vs s₃ p => ?_)))
  obtain ⟨ds, ρ₃, g₃, ⟨r, hr, hq⟩, I₃, l₃, r₃⟩ := p
  exact ⟨I₃.sub at_, hk _ r hr A s₃ g₃ cx.env.locals E _ _ at_.a (I₃.sub at_) I₃.here (.cons (r₁.mono l₃) r₃) (back_post' I₃ (l₁.trans l₃) hq)⟩
end
end Mine

-- part 13
namespace Mine
section
variable {prog : Program} {w : World} {B : Heap} {C : Addr} {mg mb : Str → Option Value} {n : Nat} {Sp : Nat → List V → V → Prop}
variable {cx : Cx} {K g₀ g : PH} {s₀ s : Shared} {val : Nat → Value} {ρ : List Slot} {A : Around} {E : Value → Shared → Prop} {sc : Scope}

noncomputable def updV (val : Nat → Value) (i : Nat) (v : Value) : Nat → Value := fun j => if j = i then v else val j
noncomputable def Fits (cx : Cx) (K g : PH) (h : Heap) (val : Nat → Value) (ρ : List Slot) (i : Nat) (v : Value) : Slot → Prop
  | .undef => True
  | .fro d => Rep cx.C g v d
  | .own l => ∃ a vs, v = .ref a ∧ (∃ n, h.get? a = some (lstObj vs n)) ∧ Reps cx.C g vs l ∧ g a = none ∧ K a = none ∧ a ∉ cx.P ∧ ∀ j l', ρ.getD j .undef = .own l' → j ≠ i → val j ≠ v

theorem isStore_at {vars : List Str} {i : Nat} {id : Str} (h : isStore sc vars i id = true) : vars[i]? = some id := eq_t (a2 h)
theorem Fits.ok {i : Nat} {v : Value} {sl : Slot} {h h' : Heap} {x : Str} (hf : Fits cx K g h val ρ i v sl) (hl : Loads cx.env h' x v) (hk : ∀ a o, a ∉ cx.P → h.get? a = some o → h'.get? a = some o) : SlotOk cx K g h' x v sl := match sl, hf with
  | .undef, _ => trivial
  | .fro _, hf => ⟨hl, hf⟩
  | .own _, ⟨a, vs, hv, ⟨k, h1⟩, h2, h3, h4, h5, _⟩ => ⟨hl, a, vs, hv, ⟨k, hk _ _ h5 h1⟩, h2, h3, h4, h5⟩
theorem Fits.ne {i j : Nat} {v : Value} {sl : Slot} {h : Heap} {l l' : List V} (hf : Fits cx K g h val ρ i v sl) (e : sl = .own l) (hj : ρ.getD j .undef = .own l') (hne : j ≠ i) : val j ≠ v := by
  subst e
  obtain ⟨_, _, _, _, _, _, _, _, h6⟩ := hf
  exact h6 j l' hj hne
theorem updV_at {i : Nat} {v : Value} : updV val i v i = v := if_pos rfl
theorem updV_ne {i j : Nat} {v : Value} (h : j ≠ i) : updV val i v j = val j := if_neg h
theorem Inv.store {i : Nat} {id : Str} {v : Value} {sl : Slot} {c : Addr} {h' : Heap} {tk : Nat} (a : At B C n sc cx K A) (I : Inv cx K g₀ s₀ val ρ g s) (hx : cx.vars[i]? = some id) (hf : Fits cx K g s.heap val ρ i v sl) (hcP : c ∈ cx.P)
    (hkeep : ∀ b o, b ≠ c → s.heap.get? b = some o → h'.get? b = some o) (hcl : ∃ o, h'.get? c = some o) (hns : ∃ m, h'.Ns cx.env.locals m) (hcell : c ≠ cx.env.locals → ∃ v, h'.IsCell c v) (hl : Loads cx.env h' id v) (ho : ∀ y u, y ≠ id → Loads cx.env s.heap y u → Loads cx.env h' y u) :
    Inv cx K g₀ s₀ (updV val i v) (ρ.set i sl) g { s with heap := h', toks := tk } := by
  have hlt := I.lt hx
  have p := I.priv c hcP
  have kP : ∀ a o, a ∉ cx.P → s.heap.get? a = some o → h'.get? a = some o := fun b o hb => hkeep b o fun e => hb (e ▸ hcP)
  refine ⟨fun b o e => hkeep b o (ne_of p.1 e) (I.frz b o e), fun b o e => hkeep b o (ne_of p.2.1 e) (I.keep b o e), I.le₀, I.new, I.rest.trans .of, fun j y hy => ?_, fun j k l l' hj hk' e => ?_, fun b hb => ?_, hns, I.lp, (List.length_set ..).trans I.len, fun b hb hbL => ?_⟩
  · by_cases hj : j = i
    · subst hj
      cases soms hx hy
      rw [getD_at hlt, updV_at]
      exact hf.ok hl kP
    · rw [getD_ne hlt hj, updV_ne hj]
      have hne : y ≠ id := fun e => hj ((List.getElem?_inj (List.getElem?_eq_some_iff.mp hy).1 a.nd).mp (hy.trans (e ▸ hx.symm)))
      exact (I.slot j y hy).to (ho y _ hne) (fun _ _ r => r) fun l q b ws m O => ⟨O.reps, ⟨m, kP _ _ O.P O.obj⟩, O.g, O.K⟩
  · by_cases q1 : j = i <;> by_cases q2 : k = i
    · rw [q1, q2]
    · subst q1
      exact absurd ((updV_ne q2).symm.trans (e.symm.trans updV_at)) (hf.ne ((getD_at hlt).symm.trans hj) ((getD_ne hlt q2).symm.trans hk') q2)
    · subst q2
      exact absurd ((updV_ne q1).symm.trans (e.trans updV_at)) (hf.ne ((getD_at hlt).symm.trans hk') ((getD_ne hlt q1).symm.trans hj) q1)
    · exact I.inj j k l l' ((getD_ne hlt q1).symm.trans hj) ((getD_ne hlt q2).symm.trans hk') ((updV_ne q1).symm.trans (e.trans (updV_ne q2)))
  · have pb := I.priv b hb
    refine ⟨pb.1, pb.2.1, ?_⟩
    by_cases q : b = c
    · exact q ▸ hcl
    · exact pb.2.2.elim fun o h => ⟨o, hkeep b o q h⟩
  · by_cases q : b = c
    · exact q ▸ hcell (q ▸ hbL)
    · exact (I.cells b hb hbL).elim fun v h => h.elim fun o h => ⟨v, o, hkeep b o q h.1, h.2⟩

theorem store_ok {i : Nat} {id : Str} {v : Value} {sl : Slot} {Q : Unit → Shared → Prop} (a : At B C n sc cx K A) (I : Inv cx K g₀ s₀ val ρ g s) (h : isStore sc cx.vars i id = true) (hf : Fits cx K g s.heap val ρ i v sl)
    (hq : ∀ s', Inv cx K g₀ s₀ (updV val i v) (ρ.set i sl) g s' → Q () s') : wpAny (model prog w) A (storeName cx.env id v) Q E s := by
  have hx := isStore_at h
  obtain ⟨m, hm⟩ := I.ns
  rcases or_t (a1 h) with hk | hk
  · have kk := a.kind (eq_t hk) nofun
    refine wpAny_storeName_local kk hm (fun h' hn' hs' => hq _ (I.store (c := cx.env.locals) a hx hf I.lp hs'.extBut (let ⟨o, _, _, ho, _⟩ := hn'; ⟨o, ho⟩) ⟨_, hn'⟩ (fun h => absurd rfl h) ⟨fun _ => ⟨_, hn', if_pos rfl⟩, fun z => by rw [kk] at z; exact z.elim nofun nofun⟩ fun y u hy hl => ?_)) (by rw [a.env.kind]; rfl)
    exact ⟨fun z => (hl.loc z).elim fun m' h => ⟨_, hn', (if_neg hy).trans (ns_det h.1 hm ▸ h.2)⟩, fun z => (hl.cell z).elim fun c h => h.2.2.elim fun o q => ⟨c, h.1, h.2.1, o, hs'.extBut c o h.2.1 q.1, q.2⟩⟩
  · have kk := a.kind (eq_t hk) nofun
    obtain ⟨c, hc, hcP, hcL⟩ := a.own _ (eq_t hk)
    obtain ⟨v₀, hv₀⟩ := I.cells c hcP hcL
    refine wpAny_storeName_cell a.env.kind kk hc hv₀ fun h' hc' hs' => hq _ (I.store (c := c) a hx hf hcP hs'.extBut (let ⟨o, ho, _⟩ := hc'; ⟨o, ho⟩) ⟨m, hm.sameBut hs' (Ne.symm hcL)⟩ (fun _ => ⟨_, hc'⟩) ⟨fun z => (nomatch kk.symm.trans z), fun _ => ⟨c, hc, hcL, hc'⟩⟩ fun y u hy hl => ?_)
    exact hl.keep (fun m' h => h.sameBut hs' (Ne.symm hcL)) fun c' o _ h1 _ h2 _ => hs'.extBut c' o (fun e => hy (a.inj _ _ _ h1 (e ▸ hc))) h2
end
end Mine

-- part 14
namespace Mine
section
variable {prog : Program} {w : World} {B : Heap} {C : Addr} {mg mb : Str → Option Value} {n : Nat} {Sp : Nat → List V → V → Prop}
variable {cx : Cx} {K g₀ g : PH} {s₀ s : Shared} {val : Nat → Value} {ρ : List Slot} {A : Around} {E : Value → Shared → Prop} {sc : Scope}

theorem closure_loop {env : Env} (f : Str × NameKind → List (Str × Addr) → Sem (ForInStep (List (Str × Addr))))
    (hf : ∀ name kind cs, f (name, kind) cs = if kind == .free then (do let a ← cellOf env name; pure (.yield ((name, a) :: cs))) else pure (.yield cs)) :
    ∀ (names : List (Str × NameKind)) (acc : List (Str × Addr)), (∀ x ∈ names, x.2 = .free → ∃ c, env.cells.lookup x.1 = some c) →
      ∃ cl, (forIn names acc f : Sem (List (Str × Addr))) = pure cl ∧ ∀ x, cl.lookup x = if (x, NameKind.free) ∈ names then env.cells.lookup x else acc.lookup x
  | [], acc, _ => ⟨acc, List.forIn_nil, fun x => (if_neg nofun).symm⟩
  | (name, kind) :: r, acc, h => by
    have hr : ∀ x ∈ r, x.2 = .free → ∃ c, env.cells.lookup x.1 = some c := fun x hx => h x (.tail _ hx)
    by_cases hk : kind = .free
    · subst hk
      obtain ⟨c, hc⟩ := h (name, .free) (.head _) rfl
      obtain ⟨cl, h1, h2⟩ := closure_loop f hf r ((name, c) :: acc) hr
      refine ⟨cl, ?_, fun x => (h2 x).trans ?_⟩
      · rw [List.forIn_cons, hf, if_pos (show (NameKind.free == NameKind.free) = true from rfl), show cellOf env name = pure c by unfold cellOf; rw [hc]]
        simpa using h1
      · by_cases hm : (x, NameKind.free) ∈ r
        · rw [if_pos hm, if_pos (.tail _ hm)]
        · by_cases hx : x = name
          · subst hx
            rw [if_neg hm, if_pos (.head _), hc, List.lookup_cons, beq_self_eq_true]
          · rw [if_neg hm, if_neg fun z => (List.mem_cons.mp z).elim (fun e => hx (Prod.mk.inj e).1) hm, List.lookup_cons, beq_false_of_ne hx]
    · obtain ⟨cl, h1, h2⟩ := closure_loop f hf r acc hr
      refine ⟨cl, ?_, fun x => (h2 x).trans ?_⟩
      · rw [List.forIn_cons, hf, if_neg fun z => hk (eq_t z)]
        simpa using h1
      · by_cases hm : (x, NameKind.free) ∈ r
        · rw [if_pos hm, if_pos (.tail _ hm)]
        · rw [if_neg hm, if_neg fun z => (List.mem_cons.mp z).elim (fun e => hk (Prod.mk.inj e).2.symm) hm]
theorem closureFor_ok {scope : Scope} {env : Env} (h : ∀ x ∈ scope.names, x.2 = .free → ∃ c, env.cells.lookup x.1 = some c) :
    ∃ cl, closureFor scope env = pure cl ∧ ∀ x, cl.lookup x = if (x, NameKind.free) ∈ scope.names then env.cells.lookup x else none := by
  unfold closureFor
  obtain ⟨cl, h1, h2⟩ := closure_loop (env := env) (fun (x : Str × NameKind) (cs : List (Str × Addr)) => if x.2 == .free then (do let a ← cellOf env x.1; pure (.yield ((x.1, a) :: cs))) else pure (.yield cs)) (fun _ _ _ => rfl) scope.names [] h
  refine ⟨cl, ?_, fun x => by rw [h2]; rfl⟩
  refine Eq.trans ?_ h1
  simp only [bind_pure]
  try (congr 1; funext x cs; obtain ⟨name, kind⟩ := x; by_cases hk : (kind == NameKind.free) = true <;> simp [hk])

theorem cellsFrom_app : ∀ (names : List (Str × NameKind)) (n : Nat) (acc : List (Str × Addr)), cellsFrom n names acc = cellsFrom n names [] ++ acc
  | [], _, _ => rfl
  | (name, kind) :: r, n, acc => by
    unfold cellsFrom
    split
    · rw [cellsFrom_app r (n + 1) ((name, n) :: acc), cellsFrom_app r (n + 1) [(name, n)], List.append_assoc]; rfl
    · exact cellsFrom_app r n acc
theorem cellsFrom_has : ∀ (names : List (Str × NameKind)) (n : Nat) (x : Str), (x, NameKind.cell) ∈ names → ∃ c, (cellsFrom n names []).lookup x = some c
  | [], _, _, h => by cases h
  | (name, kind) :: r, n, x, h => by
    unfold cellsFrom
    split
    · rw [cellsFrom_app]
      by_cases hm : (x, NameKind.cell) ∈ r
      · obtain ⟨c, hc⟩ := cellsFrom_has r (n + 1) x hm
        exact ⟨c, by rw [List.lookup_append, hc]; rfl⟩
      · rcases List.mem_cons.mp h with e | e
        · cases e
          cases q : (cellsFrom (n + 1) r []).lookup name with
          | none => exact ⟨n, by rw [List.lookup_append, q]; simp [List.lookup_cons]⟩
          | some c => exact ⟨c, by rw [List.lookup_append, q]; rfl⟩
        · exact absurd e hm
    · rename_i hk
      rcases List.mem_cons.mp h with e | e
      · cases e; exact absurd rfl hk
      · exact cellsFrom_has r n x e
theorem cellsFrom_mem : ∀ (names : List (Str × NameKind)) (n : Nat) (x : Str) (c : Addr), (x, c) ∈ cellsFrom n names [] → (x, NameKind.cell) ∈ names
  | [], _, _, _, h => by cases h
  | (name, kind) :: r, n, x, c, h => by
    unfold cellsFrom at h
    split at h
    · rename_i hk
      rw [cellsFrom_app] at h
      rcases List.mem_append.mp h with h | h
      · exact List.mem_cons_of_mem _ (cellsFrom_mem r _ x c h)
      · simp at h
        obtain ⟨rfl, _⟩ := h
        rw [beq_iff_eq] at hk; subst hk
        exact List.mem_cons_self ..
    · exact List.mem_cons_of_mem _ (cellsFrom_mem r _ x c h)

theorem compEnv_ok {M : Model} {scope : Scope} {globals : Addr} {cl : List (Str × Addr)} {qual : Str} {func : Option Addr} {code : Value} {outer : Env} {bi : Addr} {Q : Env → Shared → Prop}
    (hQ : ∀ h', (∀ b o, s.heap.get? b = some o → h'.get? b = some o) → h'.Ns s.heap.objs.size (fun _ => none) → CellsOk h' (s.heap.objs.size + 1) (cellsFrom (s.heap.objs.size + 1) scope.names []) →
      Q (newEnv scope s.heap.objs.size globals (cellsFrom (s.heap.objs.size + 1) scope.names [] ++ cl) qual func code (some outer) bi) { s with heap := h' }) :
    wpAny M A (newFunctionEnv scope globals cl [] qual func code (some outer) bi) Q E s := by
  simp only [newFunctionEnv, Option.isSome_some, if_true]
  refine wpAny_bind (wpAny_alloc ?_)
  refine wpAny_bind (wpAny_layCells _ (fun name kind cells => by cases hkc : kind == NameKind.cell <;> simp [hkc]) _ _ _ _ ?_)
  have ok := cellsFrom_ok scope.names (s.heap.push { cls := .type "dict", data := .dict #[] }) (s.heap.objs.size + 1) [] ⟨fun _ _ hm => (nomatch hm), List.Pairwise.nil⟩ (by rw [Heap.size_push]; exact Nat.le_refl _)
  rw [Heap.size_push] at ok
  rw [show ({ s with heap := s.heap.push { cls := .type "dict", data := .dict #[] } } : Shared).heap.objs.size = s.heap.objs.size + 1 from Heap.size_push .., cellsFrom_app]
  rw [List.forIn_nil]
  refine wpAny_bind (wpAny_pure (wpAny_pure ?_))
  exact hQ _ (fun b o e => pushCells_keeps _ _ b o (Heap.get?_push_of_some _ e)) ((Heap.Ns.new s.heap (.type "dict")).keeps (pushCells_keeps _ _)) ok

structure RestG (G : Nat → Prop) (s s' : Shared) : Prop where
  os : s'.os = s.os
  gens : ∀ (i : Nat) (x : GenState), ¬ G i → s.gens[i]? = some x → s'.gens[i]? = some x
  bare : AllBare s.gens → AllBare s'.gens
theorem RestG.of {G : Nat → Prop} {s s' : Shared} (h : Rest s s') : RestG G s s' := ⟨h.os, fun i x _ => h.gens i x, h.bare⟩
theorem Rest.stepG {G : Nat → Prop} {a b c : Shared} (x : Rest a b) (y : RestG G b c) (hG : ∀ i, G i → a.gens[i]? = none) : Rest a c :=
  ⟨y.os.trans x.os, fun i z e => y.gens i z (fun h => by rw [hG i h] at e; cases e) (x.gens i z e), fun z => y.bare (x.bare z)⟩
structure StepE (wr : List Addr) (G : Nat → Prop) (s : Shared) (g : PH) (s' : Shared) (g' : PH) : Prop where
  keep : ∀ b o, b ∉ wr → s.heap.get? b = some o → s'.heap.get? b = some o
  le : PH.le g g'
  frz : PH.Sub g' s'.heap
  new : ∀ b o, g' b = some o → g b = some o ∨ s.heap.get? b = none
  rest : RestG G s s'
structure MyIt (prog : Program) (w : World) (C : Addr) (n : Nat) (target : Expr) (I : Addr) (wr : List Addr) (G : Nat → Prop) (g : PH) (items : List V) (St : Nat → Shared → Prop) : Prop where
  live : ∀ i s, St i s → ∀ b ∈ wr, ∃ o, s.heap.get? b = some o
  frame : ∀ i (s s' : Shared), St i s → (∀ b ∈ wr, ∀ o, s.heap.get? b = some o → s'.heap.get? b = some o) → PH.Sub g s'.heap → (∀ (j : Nat) (x : GenState), G j → s.gens[j]? = some x → s'.gens[j]? = some x) → St i s'
  item : ∀ (A : Around) i (s : Shared) d g' (Q : Option Value → Shared → Prop) (E : Value → Shared → Prop), AOk n A → items[i]? = some d → St i s → PH.le g g' → PH.Sub g' s.heap → (∀ b ∈ wr, g' b = none) →
    (∀ v s₁, (∀ (Q' : Unit → Shared → Prop) (E' : Value → Shared → Prop), (∀ s' g'', StepE wr G s g' s' g'' → Rep C g'' v d → St (i + 1) s' → Q' () s') → wpAny (model prog w) A (letOwnedTupleGo target (.ref I) v) Q' E' s₁) → Q (some v) s₁) →
    wpAny (model prog w) A (pyNext (.ref I)) Q E s
  done : ∀ (A : Around) (s : Shared) (Q : Option Value → Shared → Prop) (E : Value → Shared → Prop), AOk n A → St items.length s → PH.Sub g s.heap →
    (∀ s', (∀ b o, b ∉ wr → s.heap.get? b = some o → s'.heap.get? b = some o) → RestG G s s' → Q none s') → wpAny (model prog w) A (pyNext (.ref I)) Q E s
  self : ∀ (A : Around) i (s : Shared) (Q : Value → Shared → Prop) (E : Value → Shared → Prop), St i s → Q (.ref I) s → wpAny (model prog w) A (pyIter (.ref I)) Q E s
theorem StepE.of {wr : List Addr} {G : Nat → Prop} {h' : Heap} {tk : Nat} (hf : PH.Sub g s.heap) (hg : ∀ b ∈ wr, g b = none) (hk : ∀ b o, b ∉ wr → s.heap.get? b = some o → h'.get? b = some o) : StepE wr G s g { s with heap := h', toks := tk } g :=
  ⟨hk, .refl g, fun b o e => hk b o (fun hb => by rw [hg b hb] at e; cases e) (hf b o e), fun _ _ e => .inl e, .of .of⟩
theorem IsListIter.at' {h h' : Heap} {I a : Addr} {i : Nat} (x : h.IsListIter I a i) (e : ∀ o, h.get? I = some o → h'.get? I = some o) : h'.IsListIter I a i := let ⟨o, h1, h2⟩ := x; ⟨o, e o h1, h2⟩

noncomputable def goTup (it v : Value) : Sem Unit := letOwnedTupleGo (.Tuple [] 0 default) it v
@[elab_as_elim] theorem letGo_el {P : Sem Unit → Prop} {target : Expr} {it v : Value} (h1 : P (pure ())) (h2 : P (goTup it v)) : P (letOwnedTupleGo target it v) := by
  cases target <;> first | exact h1 | exact h2
theorem letGo_list {target : Expr} {I a : Addr} {i : Nat} {v : Value} {Q : Unit → Shared → Prop} (h : s.heap.IsListIter I a i) (hq : Q () s) : wpAny (model prog w) A (letOwnedTupleGo target (.ref I) v) Q E s := by
  refine letGo_el (wpAny_pure hq) ?_
  cases v with
  | ref T => exact wpAny_letOwnedTupleGo_listiter (elts := []) (x1 := 0) (pos := default) h hq
  | _ => exact wpAny_pure hq
theorem one_mem {P : Addr → Prop} {a b : Addr} (h : b ∈ [a]) (p : P a) : P b := List.mem_singleton.mp h ▸ p
theorem MyIt.list (C : Addr) (n : Nat) (target : Expr) {I a : Addr} {vs : List Value} {k : Nat} {l : List V} (ha : g a = some (lstObj vs k)) (hI : a ≠ I) (r : Reps C g vs l) :
    MyIt prog w C n target I [I] (fun _ => False) g l (fun i s => s.heap.IsListIter I a i) where
  live i s h b hb := one_mem (P := fun b => ∃ o, s.heap.get? b = some o) hb (h.elim fun o h => ⟨o, h.1⟩)
  frame i s s' h hk _ _ := IsListIter.at' h fun o e => hk I (.head _) o e
  item A i s d g' Q E hA hi h hle hs hwr hq := by
    obtain ⟨v, hv, rv⟩ := r.get hi
    have hv' : vs.toArray[i]? = some v := (List.getElem?_toArray ..).trans hv
    refine (Walks.list (prog := prog) (w := w) hA.handled I a hI vs.toArray).item i s Q E (List.getElem?_eq_some_iff.mp hv).1 ⟨h, lst_is (hs _ _ (hle _ _ ha))⟩ fun v' h' tk hP hst hk => ?_
    cases soms hv' hP
    exact hq v _ fun Q' E' hQ' => letGo_list (s := { s with heap := h', toks := tk }) hst.1 (hQ' _ g' (.of hs hwr hk) (rv.mono hle) hst.1)
  done A s Q E hA h hs hq :=
    (Walks.list (prog := prog) (w := w) hA.handled I a hI vs.toArray).done s Q E ((show vs.toArray.size = l.length from r.length).symm ▸ ⟨h, lst_is (hs _ _ ha)⟩) fun h' tk hk => hq _ hk (.of .of)
  self A i s Q E h hq := wpAny_pyIter_listiter h hq

theorem letGo_int {target : Expr} {I : Addr} {i : Int} {t : Tok} {Q : Unit → Shared → Prop} (hq : Q () s) : wpAny (model prog w) A (letOwnedTupleGo target (.ref I) (.int i t)) Q E s :=
  letGo_el (wpAny_pure hq) (wpAny_pure hq)
theorem rangeV_get {a b c : Int} {i : Nat} {d : V} (h : (rangeV a b c)[i]? = some d) : i < (Builtin.Range.rangeSize a b c).toNat ∧ d = .int (a + (i : Int) * c) := by
  unfold rangeV rangeV.sliceRangeI at h
  rw [List.map_map, List.getElem?_map] at h
  obtain ⟨k, q, rfl⟩ := Option.map_eq_some_iff.mp h
  obtain ⟨h1, h2⟩ := List.getElem?_eq_some_iff.mp q
  rw [List.length_range] at h1
  exact ⟨h1, (List.getElem_range ..).symm.trans h2 ▸ rfl⟩
theorem MyIt.range (C : Addr) (n : Nat) (target : Expr) {I : Addr} {a b c : Int} :
    MyIt prog w C n target I [I] (fun _ => False) g (rangeV a b c) (fun i s => IsRangeIter s.heap I (a + (i : Nat) * c) (((Builtin.Range.rangeSize a b c).toNat : Int) - (i : Nat)) c) where
  live i s h b hb := one_mem (P := fun b => ∃ o, s.heap.get? b = some o) hb ⟨_, h⟩
  frame i s s' h hk _ _ := hk I (.head _) _ h
  item A i s d g' Q E hA hi h hle hs hwr hq := by
    obtain ⟨h1, rfl⟩ := rangeV_get hi
    refine (Walks.range (prog := prog) (w := w) hA.handled I a c _).item i s Q E h1 h fun v h' tk hP hst hk => ?_
    obtain ⟨t, rfl⟩ := hP
    exact hq _ _ fun Q' E' hQ' => letGo_int (hQ' _ g' (.of hs hwr hk) (.int _ _) hst)
  done A s Q E hA h hs hq :=
    (Walks.range (prog := prog) (w := w) hA.handled I a c (Builtin.Range.rangeSize a b c).toNat).done s Q E ((show (rangeV a b c).length = (Builtin.Range.rangeSize a b c).toNat by unfold rangeV rangeV.sliceRangeI; simp) ▸ h) fun h' tk hk => hq _ hk (.of .of)
  self A i s Q E h hq := wpAny_pyIter_rangeiter h hq

theorem getZip {x y : List V} {i : Nat} {d : V} (h : ((x.zip y).map fun p => V.tup [p.1, p.2])[i]? = some d) : ∃ a b, x[i]? = some a ∧ y[i]? = some b ∧ d = .tup [a, b] := by
  rw [List.getElem?_map] at h
  obtain ⟨p, q, rfl⟩ := Option.map_eq_some_iff.mp h
  have q := List.getElem?_zip_eq_some.mp q
  exact ⟨p.1, p.2, q.1, q.2, rfl⟩
structure ZSt (h : Heap) (z TI TO i1 i2 l1 l2 : Addr) (i : Nat) : Prop where
  z : IsZip h z TI TO .none
  ti : IsPair h TI (.ref i1) (.ref i2)
  to : ∃ a b, IsPair h TO a b
  i1 : h.IsListIter i1 l1 i
  i2 : h.IsListIter i2 l2 i
theorem mem5 {P : Addr → Prop} {a b c d e x : Addr} (h : x ∈ [a, b, c, d, e]) (h1 : P a) (h2 : P b) (h3 : P c) (h4 : P d) (h5 : P e) : P x := by
  simp only [List.mem_cons, List.not_mem_nil, or_false] at h
  rcases h with rfl | rfl | rfl | rfl | rfl <;> assumption
theorem ne5 {a b c d e x : Addr} (h : x ∉ [a, b, c, d, e]) : x ≠ a ∧ x ≠ b ∧ x ≠ c ∧ x ≠ d ∧ x ≠ e := by
  simpa only [List.mem_cons, List.not_mem_nil, or_false, not_or] using h
theorem MyIt.zip (C : Addr) (n : Nat) {elts : List Expr} {k : Nat} {tp : Pos} {z TI TO i1 i2 l1 l2 : Addr} {xs ys : List Value} {k1 k2 : Nat} {x y : List V} (D : ZipApart z TI TO i1 i2 l1 l2) (hx : g l1 = some (lstObj xs k1)) (hy : g l2 = some (lstObj ys k2)) (rx : Reps C g xs x) (ry : Reps C g ys y) :
    MyIt prog w C n (.Tuple elts k tp) z [z, TI, TO, i1, i2] (fun _ => False) g ((x.zip y).map fun p => .tup [p.1, p.2]) (fun i s => ZSt s.heap z TI TO i1 i2 l1 l2 i) where
  live i s h b hb := mem5 (P := fun b => ∃ o, s.heap.get? b = some o) hb ⟨_, h.z⟩ ⟨_, h.ti⟩ (h.to.elim fun _ q => q.elim fun _ q => ⟨_, q⟩) (h.i1.elim fun o q => ⟨o, q.1⟩) (h.i2.elim fun o q => ⟨o, q.1⟩)
  frame i s s' h hk _ _ := ⟨hk z (.head _) _ h.z, hk TI (.tail _ (.head _)) _ h.ti, h.to.elim fun a q => q.elim fun b q => ⟨a, b, hk TO (.tail _ (.tail _ (.head _))) _ q⟩, IsListIter.at' h.i1 fun o e => hk i1 (.tail _ (.tail _ (.tail _ (.head _)))) o e, IsListIter.at' h.i2 fun o e => hk i2 (.tail _ (.tail _ (.tail _ (.tail _ (.head _))))) o e⟩
  item A i s d g' Q E hA hi h hle hs hwr hq := by
    obtain ⟨da, db, ga, gb, rfl⟩ := getZip hi
    obtain ⟨va, hva, ra⟩ := rx.get ga
    obtain ⟨vb, hvb, rb⟩ := ry.get gb
    obtain ⟨a, b, h3⟩ := h.to
    refine wpAny_pyNext_zip_item D h.z h.ti h3 h.i1 h.i2 (lst_is (hs _ _ (hle _ _ hx))) (lst_is (hs _ _ (hle _ _ hy))) (x := va) (y := vb) ((List.getElem?_toArray ..).trans hva) ((List.getElem?_toArray ..).trans hvb) fun h' a1 a2 a3 a4 a5 a6 hk => ?_
    refine hq _ _ fun Q' E' hQ' => wpAny_letOwnedTupleGo_zip a1 fun h'' hz' hs' => ?_
    have kk : ∀ c o, c ∉ [z, TI, TO, i1, i2] → s.heap.get? c = some o → h''.get? c = some o := fun c o hc e => have q := ne5 hc; hs'.extBut c o q.1 (hk c o q.1 q.2.2.1 q.2.2.2.1 q.2.2.2.2 e)
    have fresh := fresh_size s.heap
    have hle' := PH.le_put (g := g') (o := tupObj [va, vb] 0) (nn fun o' e => nos fresh (hs _ _ e))
    have a5' : h''.get? s.heap.objs.size = some (tupObj [va, vb] 0) := hs'.extBut _ _ (Nat.ne_of_gt (Heap.lt_size h.z)) a5
    refine hQ' _ (g'.put s.heap.objs.size (tupObj [va, vb] 0)) ⟨kk, hle', fun c o e => (PH.put_cases e).elim (fun q => q.1 ▸ q.2 ▸ a5') fun e => kk c o (fun hm => nos (hwr c hm) e) (hs c o e), fun c o e => (PH.put_cases e).elim (fun q => .inr (q.1 ▸ fresh)) .inl, .of .of⟩
      (.tup (PH.put_self ..) (.cons (ra.mono (hle.trans hle')) (.cons (rb.mono (hle.trans hle')) .nil))) ?_
    exact ⟨hz', hs'.extBut _ _ D.TIz (hk _ _ D.TIz D.TITO D.TIi1 D.TIi2 h.ti), ⟨_, _, hs'.extBut _ _ D.TOz a2⟩, IsListIter.at' a3 fun o e => hs'.extBut _ o D.i1z e, IsListIter.at' a4 fun o e => hs'.extBut _ o D.i2z e⟩
  done A s Q E hA h hs hq := by
    obtain ⟨a, b, h3⟩ := h.to
    refine wpAny_pyNext_zip_end hA.handled D h.z h.ti h3 h.i1 h.i2 (lst_is (hs _ _ hx)) (lst_is (hs _ _ hy)) ?_ fun h' hk => hq _ (fun c o hc e => have q := ne5 hc; hk c o q.1 q.2.2.1 q.2.2.2.1 q.2.2.2.2 e) (.of (.of (tk := s.toks)))
    rw [show ((x.zip y).map fun p => V.tup [p.1, p.2]).length = min xs.length ys.length by rw [List.length_map, List.length_zip, rx.length, ry.length]]
    rcases Nat.le_total xs.length ys.length with h | h
    · exact .inl (Array.getElem?_eq_none (Nat.le_of_eq (Nat.min_eq_left h).symm))
    · exact .inr (Array.getElem?_eq_none (Nat.le_of_eq (Nat.min_eq_right h).symm))
  self A i s Q E h hq := wpAny_pyIter_zip h.z hq
end
end Mine

-- part 15
namespace Mine
section
variable {prog : Program} {w : World} {B : Heap} {C : Addr} {mg mb : Str → Option Value} {n : Nat} {Sp : Nat → List V → V → Prop}
variable {cx : Cx} {K g₀ g : PH} {s₀ s : Shared} {val : Nat → Value} {ρ : List Slot} {A : Around} {E : Value → Shared → Prop} {sc : Scope}

noncomputable def isTup (e : Expr) : Bool := e.ctorIdx == 25
inductive IterPost (prog : Program) (w : World) (n : Nat) (cx : Cx) (K g₀ : PH) (s₀ : Shared) (val : Nat → Value) (g : PH) (target : Expr) (Qi : List V → List Slot → Prop) (it : Value) (s₂ : Shared) : Prop
  | mk (items : List V) (ρ₁ : List Slot) (g₁ : PH) (s₁ : Shared) (I : Addr) (wr : List Addr) (St : Nat → Shared → Prop) (e : it = .ref I) (q : Qi items ρ₁) (h : items.length ≤ 1048576) (J : Inv cx K g₀ s₀ val ρ₁ g₁ s₁) (l : PH.le g g₁) (k : ∀ b o, s₁.heap.get? b = some o → s₂.heap.get? b = some o) (r : Rest s₁ s₂)
    (W : MyIt prog w cx.C n target I wr (fun _ => False) g₁ items St) (st : St 0 s₂) (hn : ∀ b ∈ wr, s₁.heap.get? b = none) : IterPost prog w n cx K g₀ s₀ val g target Qi it s₂
noncomputable def SndI (prog : Program) (w : World) (B : Heap) (C : Addr) (n : Nat) (Sp : Nat → List V → V → Prop) (c : CE) : Prop :=
  ∀ (sc : Scope) (cx : Cx) (K g₀ : PH) (s₀ : Shared) (val : Nat → Value) (ρ : List Slot) (g : PH) (s : Shared) (A : Around) (E : Value → Shared → Prop) (Qi : List V → List Slot → Prop) (e target : Expr),
    chkE glo sc cx.vars true c e = true → (isZipC c = true → isTup target = true) → At B C n sc cx K A → Inv cx K g₀ s₀ val ρ g s → (wpE Sp c ρ fun vi ρ₁ => ∃ items, iterV vi = some items ∧ Qi items ρ₁) →
      wpAny (model prog w) A (eval e cx.env) (fun x s' => wpAny (model prog w) A (pyIter x) (IterPost prog w n cx K g₀ s₀ val g target Qi) E s') E s

theorem iterV_inv {d : V} {items : List V} (h : iterV d = some items) : d = .list items ∧ items.length ≤ 1048576 := by
  obtain ⟨l, rfl, h⟩ := onList_inv (k := fun l => if l.length ≤ 1048576 then some l else none) h
  obtain ⟨hl, rfl⟩ := ite_some h
  exact ⟨rfl, hl⟩

theorem sndI_list {c : CE} (hE : SndE prog w B C n Sp c) (hc : ∀ sc vars e, chkE glo sc vars true c e = chkE glo sc vars false c e) : SndI prog w B C n Sp c := by
  intro sc cx K g₀ s₀ val ρ g s A E Qi e target h _ at_ I hw
  rw [hc] at h
  refine hE.then h at_ I hw fun d ρ₁ g₁ v s₁ hq I₁ l₁ r₁ => ?_
  obtain ⟨items, hi, hq⟩ := hq
  obtain ⟨rfl, hlen⟩ := iterV_inv hi
  exact r₁.listE I₁.frz fun a vs k ha ha' rx => wpAny_pyIter_list (lst_is ha') ⟨items, ρ₁, g₁, s₁, _, _, _, rfl, hq, hlen, I₁, l₁, fun b o e => Heap.get?_push_of_some _ e, .of (tk := s₁.toks), MyIt.list cx.C n target (I := s₁.heap.objs.size) ha (Nat.ne_of_lt (Heap.lt_size ha')) rx, ⟨_, Heap.get?_push_size _ rfl, rfl, rfl⟩, fun b hb => one_mem (P := fun b => s₁.heap.get? b = none) hb (fresh_size _)⟩

theorem call_typ2 {T : String} {x y : Expr} {pos p : Pos} {f : Str} {Q : Value → Shared → Prop} (hf : ∀ Q : Value → Shared → Prop, Q (.type T) s → wpAny (model prog w) A (eval (.Name f p) cx.env) Q E s) (hx : noStar x = true) (hy : noStar y = true)
    (h : wpAny (model prog w) A (eval x cx.env) (fun v s' => wpAny (model prog w) A (eval y cx.env) (fun u s₂ => wpAny (model prog w) A (call (.type T) [v, u]) Q E s₂) E s') E s) : wpAny (model prog w) A (eval (.Call (.Name f p) [x, y] [] pos) cx.env) Q E s := by
  show wpAny _ A (eval (.Name f p) cx.env >>= fun fv => callWith pos fv [] (backTo pos (starEach [x, y] cx.env)) (backToKw pos (keywordEach [] cx.env))) _ _ s
  refine wpAny_bind (hf _ ?_)
  rw [backTo1 hx, backTo1 hy]
  exact PySem.callWith_type rfl (evalArgs_plain (spliced_cons (wpAny_mono h (fun v s' hv => spliced_cons (wpAny_mono hv (fun u s₂ hu => spliced_nil hu) fun _ _ x => x)) fun _ _ x => x)))
theorem call_typ3 {T : String} {x y z : Expr} {pos p : Pos} {f : Str} {Q : Value → Shared → Prop} (hf : ∀ Q : Value → Shared → Prop, Q (.type T) s → wpAny (model prog w) A (eval (.Name f p) cx.env) Q E s) (hx : noStar x = true) (hy : noStar y = true) (hz : noStar z = true)
    (h : wpAny (model prog w) A (eval x cx.env) (fun v s' => wpAny (model prog w) A (eval y cx.env) (fun u s₂ => wpAny (model prog w) A (eval z cx.env) (fun t s₃ => wpAny (model prog w) A (call (.type T) [v, u, t]) Q E s₃) E s₂) E s') E s) : wpAny (model prog w) A (eval (.Call (.Name f p) [x, y, z] [] pos) cx.env) Q E s := by
  show wpAny _ A (eval (.Name f p) cx.env >>= fun fv => callWith pos fv [] (backTo pos (starEach [x, y, z] cx.env)) (backToKw pos (keywordEach [] cx.env))) _ _ s
  refine wpAny_bind (hf _ ?_)
  rw [backTo1 hx, backTo1 hy, backTo1 hz]
  exact PySem.callWith_type rfl (evalArgs_plain (spliced_cons (wpAny_mono h (fun v s' hv => spliced_cons (wpAny_mono hv (fun u s₂ hu => spliced_cons (wpAny_mono hu (fun t s₃ ht => spliced_nil ht) fun _ _ x => x)) fun _ _ x => x)) fun _ _ x => x)))
theorem fits {x : Int} (h : x.natAbs < 2147483650) : Builtin.Range.rangeFitsLong x = true := by
  unfold Builtin.Range.rangeFitsLong
  simp only [Bool.and_eq_true, decide_eq_true_eq]
  omega
theorem small_ok {a b c : Int} (hc : 0 < c) (hc' : c < 1073741824) (ha : a.natAbs < 1073741824) (hb : b.natAbs < 1073741824) : Builtin.Range.small a b c = true := by
  have hs : (Builtin.Range.rangeSize a b c).natAbs < 2147483650 := by
    unfold Builtin.Range.rangeSize
    rw [if_pos hc]
    split
    · have h0 : 0 ≤ (b - a - 1) := by omega
      have h1 : (b - a - 1) / c ≤ b - a - 1 := Int.ediv_le_self _ h0
      have h2 : 0 ≤ (b - a - 1) / c := Int.ediv_nonneg h0 (by omega)
      omega
    · simp
  unfold Builtin.Range.small
  rw [fits (x := a) (by omega), fits (x := b) (by omega), fits (x := c) (by omega), fits hs, if_pos hc, fits (x := b + (c - 1)) (by omega)]
  simp
theorem range_fin {a b c : Int} {t u v : Tok} {h' : Heap} {tk : Nat} {ra : Addr} {target : Expr} {Qi : List V → List Slot → Prop} {g₁ : PH} {s₁ : Shared} {ρ₁ : List Slot} (I₁ : Inv cx K g₀ s₀ val ρ₁ g₁ s₁) (l₁ : PH.le g g₁) (hb : 0 < c ∧ c < 1073741824 ∧ a.natAbs < 1073741824 ∧ b.natAbs < 1073741824)
    (hq : ∃ items, iterV (.list (rangeV a b c)) = some items ∧ Qi items ρ₁) (hk : ∀ b o, s₁.heap.get? b = some o → h'.get? b = some o) (hr : IsRange h' ra a b c t u v) :
    wpAny (model prog w) A (pyIter (.ref ra)) (IterPost prog w n cx K g₀ s₀ val g target Qi) E { s₁ with heap := h', toks := tk } := by
  obtain ⟨items, hi, hq⟩ := hq
  obtain ⟨e, hlen⟩ := iterV_inv hi
  cases e
  have key := MyIt.range (prog := prog) (w := w) (g := g₁) cx.C n target (I := h'.objs.size) (a := a) (b := b) (c := c)
  refine wpAny_pyIter_range (s := { s₁ with heap := h', toks := tk }) hr (small_ok hb.1 hb.2.1 hb.2.2.1 hb.2.2.2) ?_
  refine ⟨_, ρ₁, g₁, s₁, _, _, _, rfl, hq, hlen, I₁, l₁, fun b o e => Heap.get?_push_of_some _ (hk b o e), .of (tk := tk), key, ?_, fun b hb => ?_⟩
  · show IsRangeIter (h'.push _) h'.objs.size _ _ _
    have e0 : 0 ≤ Builtin.Range.rangeSize a b c := by
      unfold Builtin.Range.rangeSize
      rw [if_pos hb.1]
      split
      · have h2 : 0 ≤ (b - a - 1) / c := Int.ediv_nonneg (by omega) (by omega)
        omega
      · simp
    rw [show a + ((0 : Nat) : Int) * c = a by simp, show ((Builtin.Range.rangeSize a b c).toNat : Int) - ((0 : Nat) : Int) = Builtin.Range.rangeSize a b c by omega]
    exact Heap.get?_push_size _ rfl
  · simp at hb; subst hb
    cases e : s₁.heap.get? h'.objs.size with
    | none => rfl
    | some o' => exact absurd (Heap.lt_size (hk _ _ e)) (Nat.lt_irrefl _)
theorem sndI_range {a b c : CE} (D : BaseF B mg mb) (ha : SndE prog w B C n Sp a) (hb : SndE prog w B C n Sp b) (hcc : SndE prog w B C n Sp c) : SndI prog w B C n Sp (.range a b c) := by
  intro sc cx K g₀ s₀ val ρ g s A E Qi e target h _ at_ I hw
  refine eCallN_el (a2 h) fun f p es pos h => ?_
  have nm : ∀ Q : Value → Shared → Prop, Q (.type "range") s → wpAny (model prog w) A (eval (.Name f p) cx.env) Q E s := fun Q hq => glob_name D at_ (I.sub at_) (a1 h) (by decide) (by decide) (by decide +kernel) hq
  rcases or_t (a2 h) with h | h
  · refine one_el h fun x h => ?_
    obtain rfl := isIntC_eq (a1 (a2 h))
    obtain rfl := isIntC_eq (a2 (a2 (a2 h)))
    refine call_typ1 (T := "range") nm (a1 h) (hb.then (a1 (a2 (a2 h))) at_ I hw fun d ρ₁ g₁ vb s₁ hq I₁ l₁ r₁ => ?_)
    obtain ⟨x, y, z, e1, rfl, e3, hq⟩ := hq
    cases V.int.inj e1; cases V.int.inj e3
    exact r₁.intE fun t => call_range_1 (range_fin I₁ l₁ hq.1 hq.2 (fun b o e => Heap.get?_push_of_some _ e) (Heap.get?_push_size _ rfl))
  rcases or_t h with h | h
  · refine two_el h fun x y h => ?_
    obtain rfl := isIntC_eq (a2 (a2 (a2 (a2 h))))
    refine call_typ2 (T := "range") nm (a1 h) (a1 (a2 h)) (ha.then (a1 (a2 (a2 h))) at_ I hw fun d ρ₁ g₁ va s₁ hq I₁ l₁ r₁ => hb.then (a1 (a2 (a2 (a2 h)))) at_ I₁ hq fun d₂ ρ₂ g₂ vb s₂ hq₂ I₂ l₂ r₂ => ?_)
    obtain ⟨x, y, z, rfl, rfl, e3, hq⟩ := hq₂
    cases V.int.inj e3
    exact r₁.intE fun t => r₂.intE fun u => call_range_2 (range_fin I₂ (l₁.trans l₂) hq.1 hq.2 (fun b o e => Heap.get?_push_of_some _ e) (Heap.get?_push_size _ rfl))
  · refine three_el h fun x y z h => call_typ3 (T := "range") nm (a1 h) (a1 (a2 h)) (a1 (a2 (a2 h))) (ha.then (a1 (a2 (a2 (a2 h)))) at_ I hw fun d ρ₁ g₁ va s₁ hq I₁ l₁ r₁ => hb.then (a1 (a2 (a2 (a2 (a2 h))))) at_ I₁ hq fun d₂ ρ₂ g₂ vb s₂ hq₂ I₂ l₂ r₂ =>
      hcc.then (a2 (a2 (a2 (a2 (a2 h))))) at_ I₂ hq₂ fun d₃ ρ₃ g₃ vc s₃ hq₃ I₃ l₃ r₃ => ?_)
    obtain ⟨x, y, z, rfl, rfl, rfl, hq⟩ := hq₃
    exact r₁.intE fun t => r₂.intE fun u => r₃.intE fun v => call_range_3 (Ne.symm (Int.ne_of_lt hq.1.1)) (range_fin I₃ (l₁.trans (l₂.trans l₃)) hq.1 hq.2 (fun b o e => Heap.get?_push_of_some _ e) (Heap.get?_push_size _ rfl)) (.inl (PyProof.noPylong_small (by have := hq.1; omega)))

theorem sndI_zip {a b : CE} (D : BaseF B mg mb) (ha : SndE prog w B C n Sp a) (hb : SndE prog w B C n Sp b) : SndI prog w B C n Sp (.zip a b) := by
  intro sc cx K g₀ s₀ val ρ g s A E Qi e target h ht at_ I hw
  refine eCallN_el (a2 h) fun f p es pos h => two_el h fun x y h => call_typ2 (T := "zip") (fun Q hq => glob_name D at_ (I.sub at_) (a1 h) (by decide) (by decide) (by decide +kernel) hq) (a1 (a2 h)) (a1 (a2 (a2 h)))
    (ha.then (a1 (a2 (a2 (a2 h)))) at_ I hw fun d ρ₁ g₁ va s₁ hq I₁ l₁ r₁ => hb.then (a2 (a2 (a2 (a2 h)))) at_ I₁ hq fun d₂ ρ₂ g₂ vb s₂ hq₂ I₂ l₂ r₂ => ?_)
  obtain ⟨x, y, rfl, rfl, items, hi, hq⟩ := hq₂
  obtain ⟨e, hlen⟩ := iterV_inv hi
  cases V.list.inj e
  refine (r₁.mono l₂).listE I₂.frz fun p xs k1 hp hp' rx => r₂.listE I₂.frz fun q ys k2 hq1 hq1' ry => call_zip_2 (lst_is hp') (lst_is hq1') fun h' z1 z2 z3 z4 z5 z6 hk => wpAny_pyIter_zip (s := { s₂ with heap := h' }) z1 ?_
  have lp := Heap.lt_size hp'
  have lq := Heap.lt_size hq1'
  have nw : ∀ b, s₂.heap.objs.size ≤ b → s₂.heap.get? b = none := fun b hb => nn fun o e => absurd (Heap.lt_size e) (Nat.not_lt.mpr hb)
  refine Expr.Tuple.elim (motive_1 := fun target => IterPost prog w n cx K g₀ s₀ val g target Qi _ _) target (eq_t (ht rfl)) fun elts k tp => ?_
  exact ⟨_, ρ₂, g₂, s₂, _, _, _, rfl, hq, hlen, I₂, l₁.trans l₂, hk, .of (tk := s₂.toks), MyIt.zip cx.C n (elts := elts) (k := k) (tp := tp) (ktu_apart s₂.heap.objs.size p q lp lq) hp hq1 rx ry, ⟨z1, z2, ⟨_, _, z3⟩, z4, z5⟩,
    fun b hb => mem5 (P := fun b => s₂.heap.get? b = none) hb (nw _ (Nat.le_add_right ..)) (nw _ (Nat.le_add_right ..)) (nw _ (Nat.le_add_right ..)) (nw _ (Nat.le_refl _)) (nw _ (Nat.le_add_right ..))⟩
end
end Mine

-- part 16
namespace Mine
section
variable {prog : Program} {w : World} {B : Heap} {C : Addr} {mg mb : Str → Option Value} {n : Nat} {Sp : Nat → List V → V → Prop}
variable {cx : Cx} {K g₀ g : PH} {s₀ s : Shared} {val : Nat → Value} {ρ : List Slot} {A : Around} {E : Value → Shared → Prop} {sc : Scope}

theorem Reps.two {vs : List Value} {d₁ d₂ : V} (r : Reps C g vs [d₁, d₂]) : ∃ v₁ v₂, vs = [v₁, v₂] ∧ Rep C g v₁ d₁ ∧ Rep C g v₂ d₂ := by
  obtain ⟨v₁, _, rfl, r₁, v₂, _, rfl, r₂, e⟩ := r
  exact ⟨v₁, v₂, congrArg (v₁ :: v₂ :: ·) e, r₁, r₂⟩
theorem pair_ok {x y : Nat} {i₁ i₂ : Str} {p₁ p₂ tp : Pos} {k : Nat} {v : Value} {d₁ d₂ : V} {Q : Unit → Shared → Prop} (a : At B C n sc cx K A) (I : Inv cx K g₀ s₀ val ρ g s) (h1 : isStore sc cx.vars x i₁ = true) (h2 : isStore sc cx.vars y i₂ = true)
    (r : Rep cx.C g v (.tup [d₁, d₂])) (hq : ∀ s' val', Inv cx K g₀ s₀ val' ((ρ.set x (.fro d₁)).set y (.fro d₂)) g s' → Q () s') : wpAny (model prog w) A (assign (.Tuple [.Name i₁ p₁, .Name i₂ p₂] k tp) cx.env v) Q E s := by
  refine r.tupE I.frz fun t vs m ht ht' rv => ?_
  obtain ⟨v₁, v₂, rfl, r₁, r₂⟩ := rv.two
  refine assign_Tuple_tuple a.a.handled (tup_is ht') rfl rfl fun h' hk => ?_
  have I' : Inv cx K g₀ s₀ val ρ g { s with heap := h' } := I.ext (Ext.of (tk := s.toks) I.frz fun b o e => hk b o (Nat.ne_of_lt (Heap.lt_size e)) e)
  exact wpAny_bind (wpAny_holding (wpAny_assign_Name (store_ok (sl := .fro d₁) a I' h1 r₁ fun s₂ I₂ => wpAny_bind (wpAny_holding (wpAny_assign_Name (store_ok (sl := .fro d₂) a I₂ h2 r₂ fun s₃ I₃ => wpAny_pure (hq _ _ I₃)))))))

noncomputable def withK (K : PH) (X : List Addr) (h : Heap) : PH := fun b => if b ∈ X then h.get? b else K b
theorem withK_in {K : PH} {X : List Addr} {h : Heap} {b : Addr} (hb : b ∈ X) : withK K X h b = h.get? b := if_pos hb
theorem withK_out {K : PH} {X : List Addr} {h : Heap} {b : Addr} (hb : b ∉ X) : withK K X h b = K b := if_neg hb
structure Off (cx : Cx) (K g : PH) (val : Nat → Value) (ρ : List Slot) (X : List Addr) : Prop where
  g : ∀ b ∈ X, g b = none
  P : ∀ b ∈ X, b ∉ cx.P
  own : ∀ b ∈ X, ∀ i l, i < cx.vars.length → ρ.getD i .undef = .own l → val i ≠ .ref b
theorem withK_some {K : PH} {X : List Addr} {h : Heap} {b : Addr} {o : Obj} (e : withK K X h b = some o) : h.get? b = some o ∨ K b = some o := by
  by_cases hb : b ∈ X
  · exact .inl ((withK_in hb).symm.trans e)
  · exact .inr ((withK_out hb).symm.trans e)
theorem withK_not {K : PH} {X : List Addr} {h : Heap} {b : Addr} (hX : ∀ b ∈ X, ∃ o, h.get? b = some o) (e : withK K X h b = none) : b ∉ X ∧ K b = none :=
  have hb : b ∉ X := fun hb => (hX b hb).elim fun o q => nos e ((withK_in hb).trans q)
  ⟨hb, (withK_out hb).symm.trans e⟩
theorem Inv.addK {X : List Addr} (I : Inv cx K g₀ s₀ val ρ g s) (hX : Off cx K g val ρ X) (hl : ∀ b ∈ X, ∃ o, s.heap.get? b = some o) : Inv cx (withK K X s.heap) g₀ s₀ val ρ g s where
  frz := I.frz
  keep b o e := (withK_some e).elim id (I.keep b o)
  le₀ := I.le₀
  new b o e := (I.new b o e).imp id fun h => (withK_out fun hb => nos (hX.g b hb) e).trans h
  rest := I.rest
  slot i x hx := (I.slot i x hx).to id (fun _ _ r => r) fun l q a vs k O => ⟨O.reps, ⟨k, O.obj⟩, O.g, (withK_out fun hb => hX.own a hb i l (List.getElem?_eq_some_iff.mp hx).1 q O.val).trans O.K⟩
  inj := I.inj
  priv b hb := have p := I.priv b hb; ⟨p.1, (withK_out fun h => hX.P b h hb).trans p.2.1, p.2.2⟩
  ns := I.ns
  lp := I.lp
  len := I.len
  cells := I.cells
theorem Inv.off {X : List Addr} {h : Heap} (I : Inv cx (withK K X h) g₀ s₀ val ρ g s) (hX : ∀ b ∈ X, ∃ o, h.get? b = some o) (h0 : ∀ b ∈ X, g₀ b = none) : Off cx K g val ρ X where
  g b hb := nn fun o q => (I.new b o q).elim (nos (h0 b hb)) fun z => (withK_not hX z).1 hb
  P b hb hp := (withK_not hX (I.priv b hp).2.1).1 hb
  own b hb i l hi q hv := I.own (List.getElem?_eq_getElem hi) q fun a vs k O => (withK_not hX O.K).1 (Value.ref.inj (hv.symm.trans O.val) ▸ hb)
theorem Inv.dropK {X : List Addr} {h : Heap} {s' : Shared} (I : Inv cx (withK K X h) g₀ s₀ val ρ g s) (hX : ∀ b ∈ X, ∃ o, h.get? b = some o) (h0 : ∀ b ∈ X, g₀ b = none) (hK : ∀ b ∈ X, K b = none) (lives : ∀ x c, cx.env.cells.lookup x = some c → c ∈ cx.P ∨ ∃ o, K c = some o)
    (keep : ∀ b o, b ∉ X → s.heap.get? b = some o → s'.heap.get? b = some o) (rest : Rest s₀ s') : Inv cx K g₀ s₀ val ρ g s' := by
  have O := I.off hX h0
  have pO : ∀ b ∈ cx.P, b ∉ X := fun b hb hx => O.P b hx hb
  have kO : ∀ b o, K b = some o → b ∉ X := fun b o e hx => nos (hK b hx) e
  have kL : ∀ m, s.heap.Ns cx.env.locals m → s'.heap.Ns cx.env.locals m := fun m hm => hm.at' fun o e => keep _ o (pO _ I.lp) e
  have ld : ∀ {y : Str} {v : Value}, Loads cx.env s.heap y v → Loads cx.env s'.heap y v := fun hl => hl.keep kL fun c o _ hc _ e _ => keep c o ((lives _ _ hc).elim (pO c) fun z => z.elim fun o z => kO c o z) e
  exact ⟨fun b o e => keep b o (fun hx => nos (O.g b hx) e) (I.frz b o e), fun b o e => keep b o (kO b o e) (I.keep b o ((withK_out (kO b o e)).trans e)), I.le₀, fun b o e => (I.new b o e).imp id fun z => (withK_not hX z).2, rest,
    fun i x hx => (I.slot i x hx).to ld (fun _ _ r => r) fun l q a vs k O' => ⟨O'.reps, ⟨k, keep a _ (withK_not hX O'.K).1 O'.obj⟩, O'.g, (withK_not hX O'.K).2⟩, I.inj,
    fun b hb => have p := I.priv b hb; ⟨p.1, (withK_not hX p.2.1).2, p.2.2.elim fun o q => ⟨o, keep b o (pO b hb) q⟩⟩, I.ns.elim fun m hm => ⟨m, kL m hm⟩, I.lp, I.len, fun c hc hne => (I.cells c hc hne).elim fun v q => q.elim fun o q => ⟨v, o, keep c o (pO c hc) q.1, q.2⟩⟩
theorem At.addK {X : List Addr} {h : Heap} (a : At B C n sc cx K A) (hX : ∀ b ∈ X, K b = none) : At B C n sc cx (withK K X h) A :=
  have up : ∀ b o, K b = some o → withK K X h b = some o := fun b o e => (withK_out fun hb => nos (hX b hb) e).trans e
  ⟨a.env, a.cls, a.a, fun b o e => up b o (a.sub b o e), a.nd, a.own, a.has, a.inj, fun x c e => (a.lives x c e).imp id fun z => z.elim fun o z => ⟨o, up c o z⟩⟩
end
end Mine

-- part 17
namespace Mine
section
variable {prog : Program} {w : World} {B : Heap} {C : Addr} {mg mb : Str → Option Value} {n : Nat} {Sp : Nat → List V → V → Prop}
variable {cx : Cx} {K g₀ g : PH} {s₀ s : Shared} {val : Nat → Value} {ρ : List Slot} {A : Around} {E : Value → Shared → Prop} {sc : Scope}

noncomputable abbrev cEnv (sc' : Scope) (env : Env) (D : Addr) (cl : List (Str × Addr)) : Env :=
  { newEnv sc' D env.globals (cellsFrom (D + 1) sc'.names [] ++ cl) env.qual none .none (some env) builtinsNs with scope := relabel sc' env }
theorem lookup_relabel {env : Env} : ∀ (names : List (Str × NameKind)) (x : Str),
    (names.map fun (n, k) => if (k == NameKind.free && env.scope.kind == .function && env.kindOf n == some .cell) then (n, NameKind.cell) else (n, k)).lookup x =
      (names.lookup x).map fun k => if (k == NameKind.free && env.scope.kind == .function && env.kindOf x == some .cell) then NameKind.cell else k
  | [], _ => rfl
  | (n, k) :: r, x => by
    have e : (if (k == NameKind.free && env.scope.kind == .function && env.kindOf n == some .cell) = true then (n, NameKind.cell) else (n, k)) = (n, if (k == NameKind.free && env.scope.kind == .function && env.kindOf n == some .cell) = true then NameKind.cell else k) := by
      split <;> rfl
    rw [List.map_cons]
    show List.lookup x ((if (k == NameKind.free && env.scope.kind == .function && env.kindOf n == some .cell) = true then (n, NameKind.cell) else (n, k)) :: _) = _
    rw [e, List.lookup_cons, List.lookup_cons, lookup_relabel r x]
    cases hx : x == n with
    | true => cases eq_t hx; rfl
    | false => rfl
theorem cEnv_kind {sc' : Scope} {env : Env} {D : Addr} {cl : List (Str × Addr)} (x : Str) :
    (cEnv sc' env D cl).kindOf x = (sc'.names.lookup x).map fun k => if (k == NameKind.free && env.scope.kind == .function && env.kindOf x == some .cell) then NameKind.cell else k := lookup_relabel _ _

structure CompSc (sc sc' : Scope) (xs vars : List Str) : Prop where
  kind : sc'.kind = .function
  same : ∀ p ∈ sc'.names, sc'.names.lookup p.1 = some p.2
  cell : ∀ p ∈ sc'.names, p.2 = .cell → p.1 ∈ xs
  free : ∀ p ∈ sc'.names, p.2 = .free → sc.names.lookup p.1 = some .cell ∨ sc.names.lookup p.1 = some .free
  out : ∀ v ∈ vars, sc'.names.lookup v ≠ some .local ∧ sc'.names.lookup v ≠ some .cell
  xs : ∀ x ∈ xs, x ∉ vars ∧ (sc'.names.lookup x = some .local ∨ sc'.names.lookup x = some .cell)
theorem all_t {α : Type} {l : List α} {p : α → Bool} (h : l.all p = true) {x : α} (hx : x ∈ l) : p x = true := List.all_eq_true.mp h x hx
theorem ne_t {α : Type} [BEq α] [LawfulBEq α] {x y : α} (z : (x == y) = false) : x ≠ y := beq_eq_false_iff_ne.mp z
theorem compScope_spec {sc sc' : Scope} {xs vars : List Str} (h : compScope sc sc' xs vars = true) : CompSc sc sc' xs vars := by
  have h3 := a2 (a2 (a2 h))
  have h5 := a2 (a2 h3)
  refine ⟨eq_t (a1 h), fun p hp => eq_t (all_t (a1 h3) hp), fun p hp e => ?_, fun p hp e => ?_, fun v hv => ?_, fun x hx => ?_⟩
  · exact (or_t (all_t (a1 (a2 h3)) hp)).elim (fun z => absurd e (bne_iff_ne.mp z)) List.contains_iff_mem.mp
  · exact (or_t (all_t (a1 h5) hp)).elim (fun z => absurd e (bne_iff_ne.mp z)) fun z => (or_t z).imp eq_t eq_t
  · have z := Bool.or_eq_false_iff.mp (not_t (all_t (a1 (a2 h5)) hv))
    exact ⟨ne_t z.1, ne_t z.2⟩
  · have z := all_t (a2 (a2 h5)) hx
    exact ⟨fun q => Bool.noConfusion ((not_t (a1 z)).symm.trans (List.contains_iff_mem.mpr q)), (or_t (a2 z)).imp eq_t eq_t⟩

theorem CompSc.store {sc sc' : Scope} {xs vars : List Str} (Sc : CompSc sc sc' xs vars) {x : Str} {i : Nat} (hx : x ∈ xs) (hi : (xs ++ vars)[i]? = some x) : isStore sc' (xs ++ vars) i x = true :=
  Bool.and_eq_true_iff.mpr ⟨Bool.or_eq_true_iff.mpr ((Sc.xs x hx).2.imp beq_iff_eq.mpr beq_iff_eq.mpr), beq_iff_eq.mpr hi⟩
structure CompS (s₁ : Shared) (D R : Addr) (own wr : List Addr) : Prop where
  new : ∀ b, b = D ∨ b = R ∨ b ∈ own ∨ b ∈ wr → s₁.heap.get? b = none
  DR : D ≠ R
  Dw : D ∉ wr
  Rw : R ∉ wr
  Do : D ∉ own
  Ro : R ∉ own
  ow : ∀ b ∈ own, b ∉ wr
structure CInv (C : Addr) (s₁ : Shared) (g₁ : PH) (D R : Addr) (own wr : List Addr) (acc : List V) (g : PH) (s : Shared) : Prop where
  keep : ∀ b o, s₁.heap.get? b = some o → s.heap.get? b = some o
  le : PH.le g₁ g
  frz : PH.Sub g s.heap
  new : ∀ b o, g b = some o → g₁ b = some o ∨ s₁.heap.get? b = none
  rest : Rest s₁ s
  racc : ∃ vs k, s.heap.get? R = some (lstObj vs k) ∧ Reps C g vs acc
  ns : ∃ m, s.heap.Ns D m
  cells : ∀ c ∈ own, ∃ v, s.heap.IsCell c v
  gP : ∀ b, b = D ∨ b = R ∨ b ∈ own ∨ b ∈ wr → g b = none
theorem CInv.live {s₁ : Shared} {g₁ : PH} {D R : Addr} {own wr : List Addr} {acc : List V} (I : CInv C s₁ g₁ D R own wr acc g s) : ∀ b, b = D ∨ b = R ∨ b ∈ own → ∃ o, s.heap.get? b = some o :=
  fun b hb => hb.elim (fun e => I.ns.elim fun m h => h.elim fun o h => h.elim fun _ h => h.elim fun _ h => ⟨o, e ▸ h.1⟩) fun hb => hb.elim (fun e => I.racc.elim fun vs h => h.elim fun k h => ⟨_, e ▸ h.1⟩) fun hb => (I.cells b hb).elim fun v h => h.elim fun o h => ⟨o, h.1⟩
theorem StepE.none {wr : List Addr} {G : Nat → Prop} {g' : PH} {s' : Shared} {b : Addr} (e : StepE wr G s g s' g') (h : g b = none) (ho : ∃ o, s.heap.get? b = some o) : g' b = none := nn fun o q => (e.new b o q).elim (nos h) fun z => ho.elim fun _ ho => nos z ho
theorem CInv.step {s₁ : Shared} {g₁ g' : PH} {D R : Addr} {own wr : List Addr} {acc : List V} {s' : Shared} (S : CompS s₁ D R own wr) (I : CInv C s₁ g₁ D R own wr acc g s) (hl : ∀ b ∈ wr, ∃ o, s.heap.get? b = some o) (e : StepE wr (fun _ => False) s g s' g') :
    CInv C s₁ g₁ D R own wr acc g' s' where
  keep b o h := e.keep b o (fun hb => nos (S.new b (.inr (.inr (.inr hb)))) h) (I.keep b o h)
  le := I.le.trans e.le
  frz := e.frz
  new b o h := (e.new b o h).elim (I.new b o) fun z => .inr (nn fun o' q => nos z (I.keep b o' q))
  rest := I.rest.stepG e.rest fun _ h => h.elim
  racc := I.racc.elim fun vs h => h.elim fun k h => ⟨vs, k, e.keep _ _ S.Rw h.1, h.2.mono e.le⟩
  ns := I.ns.elim fun m hm => ⟨m, hm.at' fun o h => e.keep _ o S.Dw h⟩
  cells c hc := (I.cells c hc).elim fun v h => h.elim fun o h => ⟨v, o, e.keep _ o (S.ow c hc) h.1, h.2⟩
  gP b hb := e.none (I.gP b hb) (hb.elim (fun h => I.live b (.inl h)) fun hb => hb.elim (fun h => I.live b (.inr (.inl h))) fun hb => hb.elim (fun h => I.live b (.inr (.inr h))) (hl b))

noncomputable def cCx (cx : Cx) (sc' : Scope) (D : Addr) (cl : List (Str × Addr)) (xs : List Str) : Cx where
  C := cx.C
  env := cEnv sc' cx.env D cl
  vars := xs ++ cx.vars
  P := D :: (cellsFrom (D + 1) sc'.names []).map (·.2)
noncomputable abbrev ownC (sc' : Scope) (D : Addr) : List Addr := (cellsFrom (D + 1) sc'.names []).map (·.2)
noncomputable def kT (h : Heap) (D : Addr) (own : List Addr) : PH := fun b => if b = D ∨ b ∈ own then none else h.get? b
theorem kT_in {h : Heap} {D : Addr} {own : List Addr} {b : Addr} (hb : b ≠ D) (hb' : b ∉ own) : kT h D own b = h.get? b := if_neg fun q => q.elim hb hb'
theorem kT_no {h : Heap} {D : Addr} {own : List Addr} {b : Addr} (hb : b = D ∨ b ∈ own) : kT h D own b = none := if_pos hb
theorem kT_some {h : Heap} {D : Addr} {own : List Addr} {b : Addr} {o : Obj} (e : kT h D own b = some o) : h.get? b = some o ∧ b ≠ D ∧ b ∉ own :=
  have n : ¬(b = D ∨ b ∈ own) := fun q => nos (kT_no q) e
  ⟨(if_neg n).symm.trans e, fun q => n (.inl q), fun q => n (.inr q)⟩

structure CSt (sc' : Scope) (env : Env) (D : Addr) (cl : List (Str × Addr)) : Prop where
  cl : ∀ x, cl.lookup x = if (x, NameKind.free) ∈ sc'.names then env.cells.lookup x else none
  apart : (cellsFrom (D + 1) sc'.names []).Pairwise fun x y => x.2 ≠ y.2
  lo : ∀ x c, (x, c) ∈ cellsFrom (D + 1) sc'.names [] → D + 1 ≤ c

theorem lookup_app {α β : Type} [BEq α] {l m : List (α × β)} {x : α} {c : β} (h : (l ++ m).lookup x = some c) : l.lookup x = some c ∨ (l.lookup x = none ∧ m.lookup x = some c) := by
  rw [List.lookup_append] at h
  cases q : l.lookup x with
  | some c' => rw [q] at h; exact .inl h
  | none => rw [q] at h; exact .inr ⟨rfl, h⟩
theorem comp_lookup {sc' : Scope} {D : Addr} {cl : List (Str × Addr)} {xs : List Str} {c : Addr} {x : Str} (Sc : CompSc sc sc' xs cx.vars) (H : CSt sc' cx.env D cl) (h : (cEnv sc' cx.env D cl).cells.lookup x = some c) :
    ((x, NameKind.cell) ∈ sc'.names ∧ (x, c) ∈ cellsFrom (D + 1) sc'.names []) ∨ ((x, NameKind.free) ∈ sc'.names ∧ cx.env.cells.lookup x = some c) := by
  rcases lookup_app (show (cellsFrom (D + 1) sc'.names [] ++ cl).lookup x = some c from h) with q | ⟨_, q⟩
  · exact .inl ⟨cellsFrom_mem _ _ _ _ (mem_of_lookup q), mem_of_lookup q⟩
  · rw [H.cl] at q
    by_cases hm : (x, NameKind.free) ∈ sc'.names
    · exact .inr ⟨hm, (if_pos hm).symm.trans q⟩
    · exact nos (if_neg hm) q
theorem comp_free {sc' : Scope} {D : Addr} {cl : List (Str × Addr)} {xs : List Str} {x : Str} (Sc : CompSc sc sc' xs cx.vars) (H : CSt sc' cx.env D cl) (h : (x, NameKind.free) ∈ sc'.names) : (cEnv sc' cx.env D cl).cells.lookup x = cx.env.cells.lookup x := by
  have q : (cellsFrom (D + 1) sc'.names []).lookup x = none := nn fun c q => NameKind.noConfusion (soms (Sc.same (x, .free) h) (Sc.same (x, .cell) (cellsFrom_mem _ _ _ _ (mem_of_lookup q))))
  show (cellsFrom (D + 1) sc'.names [] ++ cl).lookup x = _
  rw [List.lookup_append, q]
  exact (H.cl x).trans (if_pos h)

theorem comp_at {sc' : Scope} {D : Addr} {cl : List (Str × Addr)} {xs : List Str} {s₁ : Shared} {h : Heap} (at_ : At B C n sc cx K A) (Sc : CompSc sc sc' xs cx.vars) (H : CSt sc' cx.env D cl) (hxs : xs.Nodup) (hK : PH.Sub K s₁.heap) (hP : ∀ b ∈ cx.P, ∃ o, s₁.heap.get? b = some o)
    (hD : s₁.heap.get? D = none) (hsz : ∀ b o, s₁.heap.get? b = some o → b < D) (hown : ∀ c ∈ ownC sc' D, s₁.heap.get? c = none) (hk : ∀ b o, s₁.heap.get? b = some o → h.get? b = some o) : At B C n sc' (cCx cx sc' D cl xs) (kT h D (ownC sc' D)) A := by
  have liv : ∀ x c, cx.env.cells.lookup x = some c → ∃ o, s₁.heap.get? c = some o := fun x c hc => (at_.lives x c hc).elim (hP c) fun z => z.elim fun o z => ⟨o, hK c o z⟩
  have up : ∀ b o, s₁.heap.get? b = some o → kT h D (ownC sc' D) b = some o := fun b o e => (kT_in (ne_of hD e) fun hc => nos (hown b hc) e).trans (hk b o e)
  refine ⟨⟨Sc.kind, at_.env.glob, at_.env.blt, fun x k hx => ?_⟩, at_.cls, at_.a, fun b o e => up b o (hK b o (at_.sub b o e)), List.nodup_append.mpr ⟨hxs, at_.nd, fun a ha b hb e => (Sc.xs a ha).1 (e ▸ hb)⟩, fun x hx => ?_, fun x hx => ?_, fun x y c hx hy => ?_, fun x c hx => ?_⟩
  · show (cEnv sc' cx.env D cl).kindOf x = _ ∨ _ ∧ (cEnv sc' cx.env D cl).kindOf x = _
    rw [cEnv_kind, hx]
    by_cases hc : (k == NameKind.free && cx.env.scope.kind == .function && cx.env.kindOf x == some .cell) = true
    · exact .inr ⟨eq_t (a1 (a1 hc)), congrArg some (if_pos hc)⟩
    · exact .inl (congrArg some (if_neg hc))
  · obtain ⟨c, hc⟩ := cellsFrom_has sc'.names (D + 1) x (mem_of_lookup hx)
    have hm := mem_of_lookup hc
    exact ⟨c, (show (cellsFrom (D + 1) sc'.names [] ++ cl).lookup x = _ by rw [List.lookup_append, hc]; rfl), List.mem_cons_of_mem _ (List.mem_map.mpr ⟨_, hm, rfl⟩), Nat.ne_of_gt (H.lo _ _ hm)⟩
  · have hm := mem_of_lookup hx
    have : ∃ c, cx.env.cells.lookup x = some c := (Sc.free _ hm rfl).elim (fun z => (at_.own x z).elim fun c h => ⟨c, h.1⟩) fun z => (at_.has x z).elim fun c h => ⟨c, h.1⟩
    exact this.elim fun c hc => (liv x c hc).elim fun o ho => ⟨c, (comp_free Sc H hm).trans hc, ne_of hD ho⟩
  · have lt : ∀ x c, cx.env.cells.lookup x = some c → c < D := fun x c hc => (liv x c hc).elim (hsz c)
    rcases comp_lookup Sc H hx with ⟨_, h1⟩ | ⟨_, h1⟩ <;> rcases comp_lookup Sc H hy with ⟨_, h2⟩ | ⟨_, h2⟩
    · exact name_of_addr H.apart h1 h2
    · exact absurd (lt y c h2) (Nat.not_lt.mpr (Nat.le_of_lt (H.lo _ _ h1)))
    · exact absurd (lt x c h1) (Nat.not_lt.mpr (Nat.le_of_lt (H.lo _ _ h2)))
    · exact at_.inj x y c h1 h2
  · exact (comp_lookup Sc H hx).imp (fun h => List.mem_cons_of_mem _ (List.mem_map.mpr ⟨_, h.2, rfl⟩)) fun h => (liv x c h.2).elim fun o ho => ⟨o, up c o ho⟩

theorem comp_loads {sc' : Scope} {D : Addr} {cl : List (Str × Addr)} {xs : List Str} {s₁ : Shared} {h : Heap} {y : Str} {v : Value} (at_ : At B C n sc cx K A) (Sc : CompSc sc sc' xs cx.vars) (H : CSt sc' cx.env D cl) (hD : s₁.heap.get? D = none)
    (hk : ∀ b o, s₁.heap.get? b = some o → h.get? b = some o) (hy : y ∈ cx.vars) (hl : Loads cx.env s₁.heap y v) : Loads (cEnv sc' cx.env D cl) h y v := by
  have kd : ∀ {k : NameKind}, (cEnv sc' cx.env D cl).kindOf y = some k → ∃ k₀, sc'.names.lookup y = some k₀ ∧ (k₀ = k ∨ (k₀ = .free ∧ k = .cell)) := fun e => by
    rw [cEnv_kind] at e
    obtain ⟨k₀, h1, h2⟩ := Option.map_eq_some_iff.mp e
    refine ⟨k₀, h1, ?_⟩
    by_cases hc : (k₀ == NameKind.free && cx.env.scope.kind == .function && cx.env.kindOf y == some .cell) = true
    · exact .inr ⟨eq_t (a1 (a1 hc)), h2.symm.trans (if_pos hc)⟩
    · exact .inl ((if_neg hc).symm.trans h2)
  have free : sc'.names.lookup y = some .free → ∃ c, (cEnv sc' cx.env D cl).cells.lookup y = some c ∧ c ≠ D ∧ h.IsCell c (some v) := fun q => by
    have hm := mem_of_lookup q
    have hkind : cx.env.kindOf y = some .cell ∨ cx.env.kindOf y = some .free := (Sc.free _ hm rfl).elim (fun z => .inl (at_.kind z nofun)) fun z => (at_.env.names _ _ z).elim .inr fun z => .inl z.2
    exact (hl.cell hkind).elim fun c q => q.2.2.elim fun o z => ⟨c, (comp_free Sc H hm).trans q.1, ne_of hD z.1, o, hk c o z.1, z.2⟩
  have out := Sc.out y hy
  exact ⟨fun e => (kd e).elim fun k₀ q => q.2.elim (fun z => absurd (z ▸ q.1) out.1) fun z => (nomatch z.2), fun e => e.elim (fun e => (kd e).elim fun k₀ q => q.2.elim (fun z => absurd (z ▸ q.1) out.2) fun z => free (z.1 ▸ q.1)) fun e => (kd e).elim fun k₀ q => q.2.elim (fun z => free (z ▸ q.1)) fun z => (nomatch z.2)⟩

theorem frozen_get (ρ : List Slot) (i : Nat) : (frozen ρ).getD i .undef = match ρ.getD i .undef with | .fro v => .fro v | _ => .undef := by
  unfold frozen
  rw [List.getD_eq_getElem?_getD, List.getD_eq_getElem?_getD, List.getElem?_map]
  cases ρ[i]? with
  | none => rfl
  | some x => cases x <;> rfl
theorem frozen_own {ρ : List Slot} {sl : Slot} (h : sl ∈ frozen ρ) (l : List V) : sl ≠ .own l := by
  obtain ⟨a, _, rfl⟩ := List.mem_map.mp h
  cases a <;> exact nofun
theorem own_mem {ρ : List Slot} {i : Nat} {l : List V} (h : ρ.getD i .undef = .own l) : Slot.own l ∈ ρ := by
  rw [List.getD_eq_getElem?_getD] at h
  cases q : ρ[i]? with
  | none => rw [q] at h; cases h
  | some sl => rw [q] at h; exact List.mem_of_getElem? (q.trans (congrArg some h))
theorem comp_inv {sc' : Scope} {D R : Addr} {cl : List (Str × Addr)} {xs : List Str} {s₁ : Shared} {g₁ : PH} {wr : List Addr} {acc : List V} {us : List Slot} {val' : Nat → Value} (at_ : At B C n sc cx K A) (Sc : CompSc sc sc' xs cx.vars) (H : CSt sc' cx.env D cl)
    (S : CompS s₁ D R (ownC sc' D) wr) (I₁ : Inv cx K g₀ s₀ val ρ g₁ s₁) (I : CInv cx.C s₁ g₁ D R (ownC sc' D) wr acc g s) (hu : us.length = xs.length) (hus : ∀ x ∈ us, x = .undef) (hval : ∀ i, val' (xs.length + i) = val i) :
    Inv (cCx cx sc' D cl xs) (kT s.heap D (ownC sc' D)) g s val' (us ++ frozen ρ) g s where
  frz := I.frz
  keep b o e := (kT_some e).1
  le₀ := .refl g
  new b o e := .inl e
  rest := .refl s
  slot i x hx := by
    have hx : (xs ++ cx.vars)[i]? = some x := hx
    by_cases hi : i < xs.length
    · have : (us ++ frozen ρ).getD i .undef = .undef := by
        rw [List.getD_eq_getElem?_getD, List.getElem?_append_left (by omega)]
        rw [List.getElem?_eq_getElem (by omega)]
        exact hus _ (List.getElem_mem _)
      rw [this]; trivial
    · have e1 : (us ++ frozen ρ).getD i .undef = (frozen ρ).getD (i - xs.length) .undef := by
        rw [List.getD_eq_getElem?_getD, List.getElem?_append_right (by omega), hu, List.getD_eq_getElem?_getD]
      rw [List.getElem?_append_right (by omega)] at hx
      rw [e1, frozen_get]
      have hv : val' i = val (i - xs.length) := by rw [← hval]; congr 1; omega
      have Sj := I₁.slot (i - xs.length) x hx
      rw [hv]
      cases q : ρ.getD (i - xs.length) .undef with
      | undef => trivial
      | own l => trivial
      | fro d =>
        rw [q] at Sj
        exact ⟨comp_loads at_ Sc H (S.new D (.inl rfl)) I.keep (List.mem_of_getElem? hx) Sj.1, Sj.2.mono I.le⟩
  inj i j l l' hi _ _ := (List.mem_append.mp (own_mem hi)).elim (fun h => nomatch hus _ h) fun h => absurd rfl (frozen_own h l)
  priv b hb := by
    have hb' : b = D ∨ b ∈ ownC sc' D := List.mem_cons.mp hb
    exact ⟨I.gP b (hb'.imp id fun h => .inr (.inl h)), kT_no hb', I.live b (hb'.imp id .inr)⟩
  ns := I.ns
  lp := List.mem_cons_self ..
  len := by
    show (us ++ frozen ρ).length = (xs ++ cx.vars).length
    rw [List.length_append, List.length_append, hu, ← I₁.len]
    exact congrArg (xs.length + ·) (List.length_map ..)
  cells c hc hne := (List.mem_cons.mp hc).elim (fun h => absurd h hne) (I.cells c)
theorem CInv.turn {sc' : Scope} {D R : Addr} {cl : List (Str × Addr)} {xs : List Str} {s₁ s'' : Shared} {g₁ g'' : PH} {wr : List Addr} {acc : List V} {val' : Nat → Value} {ρ' : List Slot} (S : CompS s₁ D R (ownC sc' D) wr) (I : CInv cx.C s₁ g₁ D R (ownC sc' D) wr acc g s) (hl : ∀ b ∈ wr, ∃ o, s.heap.get? b = some o)
    (J : Inv (cCx cx sc' D cl xs) (kT s.heap D (ownC sc' D)) g s val' ρ' g'' s'') : CInv cx.C s₁ g₁ D R (ownC sc' D) wr acc g'' s'' := by
  have up : ∀ b o, s₁.heap.get? b = some o → kT s.heap D (ownC sc' D) b = some o := fun b o e => (kT_in (ne_of (S.new D (.inl rfl)) e) fun hc => nos (S.new b (.inr (.inr (.inl hc)))) e).trans (I.keep b o e)
  have ot : ∀ b, b ≠ D → b ∉ ownC sc' D → (∃ o, s.heap.get? b = some o) → g b = none → g'' b = none := fun b h1 h2 h3 h4 => nn fun o q => (J.new b o q).elim (nos h4) fun z => h3.elim fun o' ho => nos z ((kT_in h1 h2).trans ho)
  exact ⟨fun b o e => J.keep b o (up b o e), I.le.trans J.le₀, J.frz, fun b o e => (J.new b o e).elim (I.new b o) fun z => .inr (nn fun o' q => nos z (up b o' q)), I.rest.trans J.rest, I.racc.elim fun vs h => h.elim fun k h => ⟨vs, k, J.keep _ _ ((kT_in S.DR.symm S.Ro).trans h.1), h.2.mono J.le₀⟩, J.ns,
    fun c hc => J.cells c (List.mem_cons_of_mem _ hc) (fun e => S.Do ((show c = D from e) ▸ hc)), fun b hb => hb.elim (fun h => (J.priv b (List.mem_cons.mpr (.inl h))).1) fun hb => hb.elim (fun h => ot b (h ▸ S.DR.symm) (h ▸ S.Ro) (I.live b (.inr (.inl h))) (I.gP b (.inr (.inl h)))) fun hb =>
      hb.elim (fun h => (J.priv b (List.mem_cons.mpr (.inr h))).1) fun h => ot b (fun e => S.Dw (e ▸ h)) (fun hc => S.ow b hc h) (hl b h) (I.gP b (.inr (.inr (.inr h))))⟩
theorem CInv.wr {sc' : Scope} {D R : Addr} {cl : List (Str × Addr)} {xs : List Str} {s₁ s'' : Shared} {g'' : PH} {wr : List Addr} {val' : Nat → Value} {ρ' : List Slot} (S : CompS s₁ D R (ownC sc' D) wr)
    (J : Inv (cCx cx sc' D cl xs) (kT s.heap D (ownC sc' D)) g s val' ρ' g'' s'') : ∀ b ∈ wr, ∀ o, s.heap.get? b = some o → s''.heap.get? b = some o := fun b hb o e =>
  J.keep b o ((kT_in (mem_ne hb S.Dw) (fun hc => S.ow b hc hb)).trans e)
theorem CInv.app {D R : Addr} {own : List Addr} {s₁ : Shared} {g₁ : PH} {wr : List Addr} {acc : List V} {v : Value} {d : V} {Q : Value → Shared → Prop} (S : CompS s₁ D R own wr) (I : CInv C s₁ g₁ D R own wr acc g s) (r : Rep C g v d) (hlen : acc.length ≤ 1048576)
    (hq : ∀ s', CInv C s₁ g₁ D R own wr (acc ++ [d]) g s' → (∀ b ∈ wr, ∀ o, s.heap.get? b = some o → s'.heap.get? b = some o) → PH.Sub g s'.heap → Q .none s') : wpAny (model prog w) A (call (.builtin "list.append") [.ref R, v]) Q E s := by
  obtain ⟨vs, k, h, rs⟩ := I.racc
  refine wpAny_list_append_plain (items := vs.toArray) ⟨k, h⟩ (fun h' hp' hs' => ?_) (size_ok (n := vs.length) (rs.length ▸ hlen))
  obtain ⟨k', hk'⟩ := hp'
  have frz : PH.Sub g h' := fun b o e => hs'.extBut b o (ne_of (I.gP _ (.inr (.inl rfl))) e) (I.frz b o e)
  exact hq _ ⟨fun b o e => hs'.extBut b o (ne_of (S.new _ (.inr (.inl rfl))) e) (I.keep b o e), I.le, frz, I.new, I.rest.trans (.of (tk := s.toks)), ⟨vs ++ [v], k', by rw [hk']; simp [lstObj], rs.append (.one r)⟩, I.ns.elim fun m hm => ⟨m, hm.at' fun o e => hs'.extBut _ o S.DR e⟩,
    fun c hc => (I.cells c hc).elim fun v' q => q.elim fun o q => ⟨v', o, hs'.extBut c o (mem_ne hc S.Ro) q.1, q.2⟩, I.gP⟩ (fun b hb o e => hs'.extBut b o (mem_ne hb S.Rw) e) frz
theorem CInv.fin {D R : Addr} {own : List Addr} {s₁ s' : Shared} {g₁ : PH} {wr : List Addr} {acc : List V} {L : Addr} (S : CompS s₁ D R own wr) (I : CInv C s₁ g₁ D R own wr acc g s) (hL : ∃ o, s₁.heap.get? L = some o) (hk : ∀ b o, b ∉ wr → b ≠ D → s.heap.get? b = some o → s'.heap.get? b = some o) (hr : Rest s₁ s') :
    ∃ g', Ext L s₁ g₁ s' g' ∧ Rep C g' (.ref R) (.list acc) ∧ g' D = none := by
  obtain ⟨vs, k, h, rs⟩ := I.racc
  have hle : PH.le g (g.put R (lstObj vs k)) := PH.le_put (I.gP _ (.inr (.inl rfl)))
  have kp : ∀ b o, s₁.heap.get? b = some o → s'.heap.get? b = some o := fun b o e => hk b o (fun hb => nos (S.new b (.inr (.inr (.inr hb)))) e) (ne_of (S.new _ (.inl rfl)) e) (I.keep b o e)
  have ne : ∀ b, s₁.heap.get? b = none → b ≠ L ∧ s₁.heap.get? b = none := fun b z => ⟨fun q => hL.elim fun o' ho => nos z (q ▸ ho), z⟩
  exact ⟨g.put R (lstObj vs k), ⟨fun b o _ e => kp b o e, fun m hm => hm.keeps kp, I.le.trans hle, fun b o e => (PH.put_cases e).elim (fun z => z.1 ▸ z.2 ▸ hk _ _ S.Rw S.DR.symm h) fun e => hk b o (fun hb => nos (I.gP b (.inr (.inr (.inr hb)))) e) (ne_of (I.gP _ (.inl rfl)) e) (I.frz b o e),
    fun b o e => (PH.put_cases e).elim (fun z => .inr (ne b (S.new b (.inr (.inl z.1))))) fun e => (I.new b o e).imp id (ne b), hr⟩, .list (PH.put_self ..) (rs.mono hle), (PH.put_ne S.DR).trans (I.gP _ (.inl rfl))⟩
end
end Mine

-- part 18
namespace Mine
section
variable {prog : Program} {w : World} {B : Heap} {C : Addr} {mg mb : Str → Option Value} {n : Nat} {Sp : Nat → List V → V → Prop}
variable {cx : Cx} {K g₀ g : PH} {s₀ s : Shared} {val : Nat → Value} {ρ : List Slot} {A : Around} {E : Value → Shared → Prop} {sc : Scope}

theorem comp_elt {sc' : Scope} {D R : Addr} {cl : List (Str × Addr)} {xs : List Str} {s₁ s₂ : Shared} {g₁ g₂ : PH} {wr : List Addr} {acc : List V} {bs : List Slot} {val' : Nat → Value} {el target : Expr} {Rr : List V → Prop} {j : Nat} {It : Addr} {items : List V} {St : Nat → Shared → Prop} {elt : CE} {F : Shared → Prop}
    {E1 E2 : Value → Shared → Prop} (hE : SndE prog w B C n Sp elt) (W : MyIt prog w cx.C n target It wr (fun _ => False) g₁ items St) (at' : At B C n sc' (cCx cx sc' D cl xs) (kT s.heap D (ownC sc' D)) A) (S : CompS s₁ D R (ownC sc' D) wr) (I0 : CInv cx.C s₁ g₁ D R (ownC sc' D) wr acc g s)
    (hst : St j s) (J : Inv (cCx cx sc' D cl xs) (kT s.heap D (ownC sc' D)) g s val' bs g₂ s₂) (hc : chkE glo sc' (xs ++ cx.vars) false elt el = true) (hw : wpE Sp elt bs fun y _ => Rr [y]) (hacc : acc.length ≤ 1048576)
    (hF : ∀ ys g' s', ys.length ≤ 1 → Rr ys → CInv cx.C s₁ g₁ D R (ownC sc' D) wr (acc ++ ys) g' s' → St j s' → F s') :
    wpAny (model prog w) A (eval el (cEnv sc' cx.env D cl)) (fun x s₄ => wpAny (model prog w) A (call (.builtin "list.append") [.ref R, x]) (fun _ s₅ => F s₅) E2 s₄) E1 s₂ := by
  refine hE.then (cx := cCx cx sc' D cl xs) hc at' J hw fun d ρ' g' v s' hq J' l' r => ?_
  have I1 := I0.turn S (W.live _ _ hst) J'
  have k1 := CInv.wr S J'
  have hst' : St j s' := W.frame j s s' hst k1 (fun b o e => I1.frz b o (I1.le b o e)) fun _ _ h => h.elim
  refine CInv.app S I1 r hacc fun s'' I2 k2 frz => hF [d] g' s'' (by simp) hq I2 (W.frame j s' s'' hst' k2 (fun b o e => I2.frz b o (I2.le b o e)) fun _ _ h => h.elim)

theorem mem_same {no : Bool} {i x : Nat} {bs : List Slot} {Q : Bool → Prop} {P : V → List Slot → Prop} (hb : ∀ sl ∈ bs, ∀ l, sl ≠ .own l) (h : wpE Sp (.mem no (.var i) x) bs fun v _ => ∃ b, v = .bool b ∧ Q b) (hP : ∀ b, Q b → P (.bool b) bs) : wpE Sp (.mem no (.var i) x) bs P := by
  have go : ∀ (P P' : V → List Slot → Prop), (∀ v, P v bs → P' v bs) → wpE Sp (.var i) bs P → wpE Sp (.var i) bs P' := fun P P' k h => by
    show match bs.getD i .undef with | .undef => False | .fro v => P' v bs | .own l => P' (.list l) (bs.set i (.fro (.list l)))
    replace h : match bs.getD i .undef with | .undef => False | .fro v => P v bs | .own l => P (.list l) (bs.set i (.fro (.list l))) := h
    cases q : bs.getD i .undef with
    | undef => rw [q] at h; exact h
    | own l => exact absurd rfl (hb _ (own_mem q) l)
    | fro v => rw [q] at h; exact k v h
  replace h : wpE Sp (.var i) bs fun va ρ₁ => ∃ l, slotV (ρ₁.getD x .undef) = some (.list l) ∧ V.plain 4 va = true ∧ V.plain 4 (.list l) = true ∧ l.length ≤ 1048576 ∧ ∀ r : Bool, (r = true ↔ va ∈ l) → ∃ b, V.bool (r != no) = .bool b ∧ Q b := h
  show wpE Sp (.var i) bs fun va ρ₁ => ∃ l, slotV (ρ₁.getD x .undef) = some (.list l) ∧ V.plain 4 va = true ∧ V.plain 4 (.list l) = true ∧ l.length ≤ 1048576 ∧ ∀ r : Bool, (r = true ↔ va ∈ l) → P (.bool (r != no)) ρ₁
  exact go _ _ (fun v h => h.elim fun l h => ⟨l, h.1, h.2.1, h.2.2.1, h.2.2.2.1, fun r hr => (h.2.2.2.2 r hr).elim fun b q => V.bool.inj q.1 ▸ hP b q.2⟩) h

theorem comp_rest {sc' : Scope} {D R : Addr} {cl : List (Str × Addr)} {xs : List Str} {s₁ s₂ : Shared} {g₁ g₂ : PH} {wr : List Addr} {acc : List V} {bs : List Slot} {val' : Nat → Value} {el target : Expr} {ifs : List Expr} {Rr : List V → Prop} {j : Nat} {It : Addr} {items : List V} {St : Nat → Shared → Prop} {elt : CE}
    {cond : Option CE} {F : Shared → Prop} {E1 E2 E3 : Value → Shared → Prop} (hE : SndE prog w B C n Sp elt) (hC : SndO prog w B C n Sp cond) (W : MyIt prog w cx.C n target It wr (fun _ => False) g₁ items St) (at' : At B C n sc' (cCx cx sc' D cl xs) (kT s.heap D (ownC sc' D)) A)
    (S : CompS s₁ D R (ownC sc' D) wr) (I0 : CInv cx.C s₁ g₁ D R (ownC sc' D) wr acc g s) (hst : St j s) (J : Inv (cCx cx sc' D cl xs) (kT s.heap D (ownC sc' D)) g s val' bs g₂ s₂) (hbs : ∀ sl ∈ bs, ∀ l, sl ≠ .own l) (hc : chkE glo sc' (xs ++ cx.vars) false elt el = true)
    (hcc : chkC glo sc' (xs ++ cx.vars) cond ifs = true) (hw : wpC Sp cond bs fun b => (b = true → wpE Sp elt bs fun y _ => Rr [y]) ∧ (b = false → Rr [])) (hacc : acc.length ≤ 1048576)
    (hF : ∀ ys g' s', ys.length ≤ 1 → Rr ys → CInv cx.C s₁ g₁ D R (ownC sc' D) wr (acc ++ ys) g' s' → St j s' → F s') :
    wpAny (model prog w) A (forIn ifs true fun c r => if r = true then do let ok ← isTrue c (cEnv sc' cx.env D cl) (eval c (cEnv sc' cx.env D cl)); pure (ForInStep.yield ok) else pure (ForInStep.yield r)) (fun ok s₃ =>
      if ok = true then wpAny (model prog w) A (eval el (cEnv sc' cx.env D cl)) (fun x s₄ => wpAny (model prog w) A (call (.builtin "list.append") [.ref R, x]) (fun _ s₅ => F s₅) E2 s₄) E3 s₃ else F s₃) E1 s₂ := by
  cases cond with
  | none =>
    refine nil0_el hcc ?_
    rw [List.forIn_nil]
    exact wpAny_pure ((if_pos rfl).symm ▸ comp_elt hE W at' S I0 hst J hc (hw.1 rfl) hacc hF)
  | some c =>
    refine one_el hcc fun e hcc => ?_
    have hw' : wpE Sp c bs fun v ρ' => ∃ b, v = .bool b ∧ (ρ' = bs ∧ ((b = true → wpE Sp elt bs fun y _ => Rr [y]) ∧ (b = false → Rr []))) := by
      revert hw
      refine isMem_el (a1 hcc) fun no i x hw => ?_
      exact mem_same hbs hw fun b h => ⟨b, rfl, rfl, h⟩
    rw [List.forIn_cons]
    refine wpAny_bind ?_
    show wpAny _ A (do let ok ← isTrue e (cEnv sc' cx.env D cl) (eval e (cEnv sc' cx.env D cl)); pure (ForInStep.yield ok)) _ _ s₂
    refine wpAny_bind (SndE.test (cx := cCx cx sc' D cl xs) (c := c) hC (Bool.or_eq_true_iff.mpr (.inr (a1 (a2 hcc)))) (a2 (a2 hcc)) at' J hw' fun b ρ' g' s' hq J' l' => ?_)
    obtain ⟨rfl, hq⟩ := hq
    refine wpAny_pure ?_
    show wpAny _ A (forIn [] b _) _ _ s'
    rw [List.forIn_nil]
    refine wpAny_pure ?_
    cases b with
    | true => exact (if_pos rfl).symm ▸ comp_elt hE W at' S I0 hst J' hc (hq.1 rfl) hacc hF
    | false =>
      have I1 := I0.turn S (W.live _ _ hst) J'
      exact (if_neg Bool.false_ne_true).symm ▸ hF [] g' s' (Nat.zero_le _) (hq.2 rfl) ((List.append_nil acc).symm ▸ I1) (W.frame j s s' hst (CInv.wr S J') (fun b o e => I1.frz b o (I1.le b o e)) fun _ _ h => h.elim)

noncomputable def compF (Sp : Nat → List V → V → Prop) (two : Bool) (elt : CE) (cond : Option CE) (ρ₁ : List Slot) (x : V) (R : List V → Prop) : Prop :=
  bindN two x fun bs => wpC Sp cond (bs ++ frozen ρ₁) fun b => (b = true → wpE Sp elt (bs ++ frozen ρ₁) fun y _ => R [y]) ∧ (b = false → R [])
theorem compF_one {elt : CE} {cond : Option CE} {ρ₁ : List Slot} {x : V} {R : List V → Prop} (h : compF Sp false elt cond ρ₁ x R) :
    wpC Sp cond ([Slot.fro x] ++ frozen ρ₁) fun b => (b = true → wpE Sp elt ([Slot.fro x] ++ frozen ρ₁) fun y _ => R [y]) ∧ (b = false → R []) := h
theorem compF_two {elt : CE} {ρ₁ : List Slot} {x : V} {R : List V → Prop} (h : compF Sp true elt none ρ₁ x R) : ∃ a b, x = .tup [a, b] ∧ wpE Sp elt ([Slot.fro a, Slot.fro b] ++ frozen ρ₁) fun y _ => R [y] :=
  h.elim fun a h => h.elim fun b h => ⟨a, b, h.1, h.2.1 rfl⟩
theorem drop_at {α : Type} {l : List α} {i : Nat} (h : i < l.length) : l.drop i = l[i] :: l.drop (i + 1) := List.drop_eq_getElem_cons h
theorem noOwn_fro {bs : List Slot} {ρ : List Slot} (h : ∀ sl ∈ bs, ∀ l, sl ≠ .own l) : ∀ sl ∈ bs ++ frozen ρ, ∀ l, sl ≠ .own l := fun sl hs l => (List.mem_append.mp hs).elim (fun q => h sl q l) fun q => frozen_own q l

structure CRun (B : Heap) (C : Addr) (n : Nat) (sc sc' : Scope) (cx : Cx) (K g₀ : PH) (s₀ : Shared) (val : Nat → Value) (ρ : List Slot) (A : Around) (s₁ : Shared) (g₁ : PH) (D R : Addr) (cl : List (Str × Addr)) (xs : List Str) (wr : List Addr) : Prop where
  at_ : At B C n sc cx K A
  Sc : CompSc sc sc' xs cx.vars
  nd : xs.Nodup
  H : CSt sc' cx.env D cl
  S : CompS s₁ D R (ownC sc' D) wr
  I₁ : Inv cx K g₀ s₀ val ρ g₁ s₁
  sz : ∀ b o, s₁.heap.get? b = some o → b < D
theorem CRun.at' {sc' : Scope} {D R : Addr} {cl : List (Str × Addr)} {xs : List Str} {s₁ : Shared} {g₁ : PH} {wr : List Addr} {acc : List V} (X : CRun B C n sc sc' cx K g₀ s₀ val ρ A s₁ g₁ D R cl xs wr) (I : CInv cx.C s₁ g₁ D R (ownC sc' D) wr acc g s) :
    At B C n sc' (cCx cx sc' D cl xs) (kT s.heap D (ownC sc' D)) A :=
  comp_at X.at_ X.Sc X.H X.nd X.I₁.keep (fun b hb => (X.I₁.priv b hb).2.2) (X.S.new _ (.inl rfl)) X.sz (fun c hc => X.S.new c (.inr (.inr (.inl hc)))) I.keep

noncomputable def shiftV (k : Nat) (val : Nat → Value) : Nat → Value := fun i => if i < k then .none else val (i - k)
theorem shiftV_add (k : Nat) (val : Nat → Value) (i : Nat) : shiftV k val (k + i) = val i := (if_neg (Nat.not_lt.mpr (Nat.le_add_right k i))).trans (congrArg val (Nat.add_sub_cancel_left ..))
noncomputable def CEnd (cx : Cx) (s₁ : Shared) (g₁ : PH) (D R : Addr) (own wr : List Addr) (QR : List V → Prop) (s' : Shared) : Prop :=
  ∃ acc g s'', CInv cx.C s₁ g₁ D R own wr acc g s'' ∧ QR acc ∧ (∀ b o, b ∉ wr → s''.heap.get? b = some o → s'.heap.get? b = some o) ∧ Rest s₁ s'

inductive LoopI (C : Addr) (s₁ : Shared) (g₁ : PH) (D R : Addr) (own wr : List Addr) (items : List V) (St : Nat → Shared → Prop) (F : V → (List V → Prop) → Prop) (QR : List V → Prop) (m : Nat) (s : Shared) : Prop
  | mk (i : Nat) (acc : List V) (g : PH) (e : m = items.length - i) (hi : i ≤ items.length) (I : CInv C s₁ g₁ D R own wr acc g s) (st : St i s) (ha : acc.length ≤ i) (hw : compL F (items.drop i) acc QR) : LoopI C s₁ g₁ D R own wr items St F QR m s
theorem LoopI.next {s₁ : Shared} {g₁ : PH} {D R : Addr} {own wr : List Addr} {items : List V} {St : Nat → Shared → Prop} {F : V → (List V → Prop) → Prop} {QR : List V → Prop} {i : Nat} {acc ys : List V} (hlt : i < items.length) (hacc : acc.length ≤ i) (hy : ys.length ≤ 1) (hR : compL F (items.drop (i + 1)) (acc ++ ys) QR)
    (I : CInv C s₁ g₁ D R own wr (acc ++ ys) g s) (st : St (i + 1) s) : ∃ m < items.length - i, LoopI C s₁ g₁ D R own wr items St F QR m s :=
  ⟨items.length - (i + 1), Nat.sub_lt_sub_left hlt (Nat.lt_succ_self i), i + 1, acc ++ ys, g, rfl, hlt, I, st, (List.length_append ..) ▸ Nat.add_le_add hacc hy, hR⟩
theorem LoopI.done {s₁ s' : Shared} {g₁ : PH} {D R : Addr} {own wr : List Addr} {items : List V} {F : V → (List V → Prop) → Prop} {QR : List V → Prop} {i : Nat} {acc : List V} {fl : Flow} (hi : i ≤ items.length) (hlt : ¬ i < items.length) (I : CInv cx.C s₁ g₁ D R own wr acc g s) (hw : compL F (items.drop i) acc QR)
    (hk : ∀ b o, b ∉ wr → s.heap.get? b = some o → s'.heap.get? b = some o) (hr : RestG (fun _ => False) s s') : ∃ fl', (Except.ok fl : Except Value Flow) = .ok fl' ∧ CEnd cx s₁ g₁ D R own wr QR s' := by
  obtain rfl := Nat.le_antisymm hi (Nat.not_lt.mp hlt)
  rw [List.drop_length] at hw
  exact ⟨_, rfl, acc, g, s, I, hw, hk, I.rest.stepG hr fun _ h => h.elim⟩
theorem comp_loop1 {sc' : Scope} {D R It : Addr} {cl : List (Str × Addr)} {id : Str} {px pos : Pos} {s₁ : Shared} {g₁ : PH} {wr : List Addr} {el iter : Expr} {ifs : List Expr} {items : List V} {St : Nat → Shared → Prop} {elt : CE} {cond : Option CE} {QR : List V → Prop}
    (hE : SndE prog w B C n Sp elt) (hC : SndO prog w B C n Sp cond) (X : CRun B C n sc sc' cx K g₀ s₀ val ρ A s₁ g₁ D R cl [id] wr) (W : MyIt prog w cx.C n (.Name id px) It wr (fun _ => False) g₁ items St) (hlen : items.length ≤ 1048576)
    (hc : chkE glo sc' (id :: cx.vars) false elt el = true) (hcc : chkC glo sc' (id :: cx.vars) cond ifs = true) (I : CInv cx.C s₁ g₁ D R (ownC sc' D) wr [] g s) (hst : St 0 s) (hw : compL (compF Sp false elt cond ρ) items [] QR) :
    codeAny (model prog w) A (.compLoop (.ListComp el [⟨.Name id px, iter, ifs, 0⟩] sc' pos) 0 (.ref It) (.ref R) (cEnv sc' cx.env D cl)) (fun r s' => ∃ fl, r = .ok fl ∧ CEnd cx s₁ g₁ D R (ownC sc' D) wr QR s') s := by
  refine codeAny_compLoop_tests (I := LoopI cx.C s₁ g₁ D R (ownC sc' D) wr items St (compF Sp false elt cond ρ) QR) ?_ items.length ⟨0, [], g, rfl, Nat.zero_le _, I, hst, Nat.le_refl _, hw⟩
  intro m s h
  obtain ⟨i, acc, g, rfl, hi, I, hst, hacc, hw⟩ := h
  by_cases hlt : i < items.length
  · refine W.item A i s items[i] g _ _ X.at_.a (List.getElem?_eq_getElem hlt) hst I.le I.frz (fun b hb => I.gP b (.inr (.inr (.inr hb)))) fun v s_a hgo => ?_
    have hpure : assign (.Name id px) (cEnv sc' cx.env D cl) v = (letOwnedTupleGo (.Name id px) (.ref It) v >>= fun _ => assign (.Name id px) (cEnv sc' cx.env D cl) v) := by
      show _ = (pure () >>= fun _ => _)
      rw [pure_bind]
    show wpAny _ A (assign (.Name id px) (cEnv sc' cx.env D cl) v) _ _ s_a
    rw [hpure]
    refine wpAny_bind (hgo _ _ fun s' g' e r st' => ?_)
    have I' := I.step X.S (W.live _ _ hst) e
    have at' := X.at' I'
    have J := comp_inv (us := [.undef]) (val' := shiftV 1 val) X.at_ X.Sc X.H X.S X.I₁ I' rfl (fun _ h => List.mem_singleton.mp h) (fun i => shiftV_add 1 val i)
    rw [drop_at hlt] at hw
    have hw : compF Sp false elt cond ρ items[i] fun ys => compL (compF Sp false elt cond ρ) (items.drop (i + 1)) (acc ++ ys) QR := hw
    have hw := compF_one hw
    have hstore : isStore sc' (cCx cx sc' D cl [id]).vars 0 id = true := X.Sc.store (.head _) rfl
    refine wpAny_assign_Name (store_ok (cx := cCx cx sc' D cl [id]) (sl := .fro items[i]) at' J hstore r fun s₂ J₂ => ?_)
    refine comp_rest (xs := [id]) (bs := [Slot.fro items[i]] ++ frozen ρ) (Rr := fun ys => compL (compF Sp false elt cond ρ) (items.drop (i + 1)) (acc ++ ys) QR) hE hC W at' X.S I' st' J₂ (noOwn_fro fun sl h l => List.mem_singleton.mp h ▸ nofun) hc hcc hw (Nat.le_trans hacc (Nat.le_trans hi hlen)) fun ys g'' s'' hy hR I'' st'' => LoopI.next hlt hacc hy hR I'' st''
  · obtain rfl := Nat.le_antisymm hi (Nat.not_lt.mp hlt)
    exact W.done A s _ _ X.at_.a hst (fun b o e => I.frz b o (I.le b o e)) fun s' hk hr => LoopI.done hi hlt I hw hk hr

theorem comp_loop2 {sc' : Scope} {D R It : Addr} {cl : List (Str × Addr)} {i₁ i₂ : Str} {p₁ p₂ tp pos : Pos} {k : Nat} {s₁ : Shared} {g₁ : PH} {wr : List Addr} {el iter : Expr} {items : List V} {St : Nat → Shared → Prop} {elt : CE} {QR : List V → Prop}
    (hE : SndE prog w B C n Sp elt) (X : CRun B C n sc sc' cx K g₀ s₀ val ρ A s₁ g₁ D R cl [i₁, i₂] wr) (W : MyIt prog w cx.C n (.Tuple [.Name i₁ p₁, .Name i₂ p₂] k tp) It wr (fun _ => False) g₁ items St) (hlen : items.length ≤ 1048576)
    (hc : chkE glo sc' (i₁ :: i₂ :: cx.vars) false elt el = true) (I : CInv cx.C s₁ g₁ D R (ownC sc' D) wr [] g s) (hst : St 0 s) (hw : compL (compF Sp true elt none ρ) items [] QR) :
    codeAny (model prog w) A (.compLoop (.ListComp el [⟨.Tuple [.Name i₁ p₁, .Name i₂ p₂] k tp, iter, [], 0⟩] sc' pos) 0 (.ref It) (.ref R) (cEnv sc' cx.env D cl)) (fun r s' => ∃ fl, r = .ok fl ∧ CEnd cx s₁ g₁ D R (ownC sc' D) wr QR s') s := by
  refine LCp.codeAny_compLoop_pair (I := LoopI cx.C s₁ g₁ D R (ownC sc' D) wr items St (compF Sp true elt none ρ) QR) ?_ items.length ⟨0, [], g, rfl, Nat.zero_le _, I, hst, Nat.le_refl _, hw⟩
  intro m s h
  obtain ⟨i, acc, g, rfl, hi, I, hst, hacc, hw⟩ := h
  by_cases hlt : i < items.length
  · refine W.item A i s items[i] g _ _ X.at_.a (List.getElem?_eq_getElem hlt) hst I.le I.frz (fun b hb => I.gP b (.inr (.inr (.inr hb)))) fun v s_a hgo => ?_
    refine hgo _ _ fun s' g' e r st' => ?_
    have I' := I.step X.S (W.live _ _ hst) e
    have at' := X.at' I'
    have J := comp_inv (us := [.undef, .undef]) (val' := shiftV 2 val) X.at_ X.Sc X.H X.S X.I₁ I' rfl (fun _ h => (List.mem_cons.mp h).elim id List.mem_singleton.mp) (fun i => shiftV_add 2 val i)
    rw [drop_at hlt] at hw
    have hw : compF Sp true elt none ρ items[i] fun ys => compL (compF Sp true elt none ρ) (items.drop (i + 1)) (acc ++ ys) QR := hw
    obtain ⟨a, b, hab, hw⟩ := compF_two hw
    have hs1 : isStore sc' (cCx cx sc' D cl [i₁, i₂]).vars 0 i₁ = true := X.Sc.store (.head _) rfl
    have hs2 : isStore sc' (cCx cx sc' D cl [i₁, i₂]).vars 1 i₂ = true := X.Sc.store (.tail _ (.head _)) rfl
    rw [hab] at r
    refine pair_ok (cx := cCx cx sc' D cl [i₁, i₂]) at' J hs1 hs2 r fun s₂ val₂ J₂ => ?_
    refine comp_elt (xs := [i₁, i₂]) (bs := [Slot.fro a, Slot.fro b] ++ frozen ρ) (Rr := fun ys => compL (compF Sp true elt none ρ) (items.drop (i + 1)) (acc ++ ys) QR) hE W at' X.S I' st' J₂ hc hw (Nat.le_trans hacc (Nat.le_trans hi hlen)) fun ys g'' s'' hy hR I'' st'' => LoopI.next hlt hacc hy hR I'' st''
  · obtain rfl := Nat.le_antisymm hi (Nat.not_lt.mp hlt)
    exact W.done A s _ _ X.at_.a hst (fun b o e => I.frz b o (I.le b o e)) fun s' hk hr => LoopI.done hi hlt I hw hk hr
end
end Mine

-- part 19
namespace Mine
section
variable {prog : Program} {w : World} {B : Heap} {C : Addr} {mg mb : Str → Option Value} {n : Nat} {Sp : Nat → List V → V → Prop}
variable {cx : Cx} {K g₀ g : PH} {s₀ s : Shared} {val : Nat → Value} {ρ : List Slot} {A : Around} {E : Value → Shared → Prop} {sc : Scope}

theorem noSet_folded {e : Expr} {env : Env} (h : noSet e = true) (x : Value) : foldedSetIterable e env x = pure x := by
  cases e <;> first | rfl | cases h
theorem Ext.forget {L D : Addr} {g₁ g' : PH} {s₁ s' : Shared} {h' : Heap} (e : Ext L s₁ g₁ s' g') (hg : g' D = Option.none) (h1 : s₁.heap.get? D = Option.none) (hL : ∃ o, s₁.heap.get? L = some o) (hs : Heap.SameBut D s'.heap h') : Ext L s₁ g₁ { s' with heap := h' } g' where
  keep b o hb h := hs.extBut b o (ne_of h1 h) (e.keep b o hb h)
  ns m hm := (e.ns m hm).sameBut hs fun q => hL.elim fun o ho => nos h1 (q ▸ ho)
  le := e.le
  frz b o h := hs.extBut b o (ne_of hg h) (e.frz b o h)
  new := e.new
  rest := e.rest.trans (.of (tk := s'.toks))

theorem compS_new {sc' : Scope} {D R : Nat} {s₁ : Shared} {wr : List Addr} (hD : D = R + 1) (hsz : ∀ b o, s₁.heap.get? b = some o → b < R) (ho : ∀ c ∈ ownC sc' D, D + 1 ≤ c) (hl : ∀ b ∈ wr, b < R) (hwr : ∀ b ∈ wr, s₁.heap.get? b = none) : CompS s₁ D R (ownC sc' D) wr := by
  subst hD
  have nu : ∀ b : Nat, R ≤ b → s₁.heap.get? b = none := fun b hb => nn fun o e => absurd (hsz b o e) (Nat.not_lt.mpr hb)
  exact ⟨fun b h => h.elim (fun h => nu b (h ▸ Nat.le_succ R)) fun h => h.elim (fun h => nu b (Nat.le_of_eq h.symm)) fun h => h.elim (fun h => nu b (Nat.le_trans (Nat.le_add_right R 2) (ho b h))) (hwr b),
    Nat.succ_ne_self R, fun h => Nat.not_succ_lt_self (hl _ h), fun h => Nat.lt_irrefl _ (hl _ h), fun h => Nat.not_succ_le_self _ (ho _ h), fun h => Nat.not_succ_le_self _ (Nat.le_trans (Nat.le_succ _) (ho _ h)), fun b hb h => Nat.lt_irrefl b (Nat.lt_of_lt_of_le (hl b h) (Nat.le_trans (Nat.le_add_right R 2) (ho b hb)))⟩
theorem CEnd.fin {D R : Addr} {own wr : List Addr} {s₁ s' : Shared} {g₁ : PH} {QR : List V → Prop} {P : Prop} (S : CompS s₁ D R own wr) (I₁ : Inv cx K g₀ s₀ val ρ g₁ s₁) (h : CEnd cx s₁ g₁ D R own wr QR s')
    (f : ∀ ds g', QR ds → Ext cx.env.locals s₁ g₁ s' g' → Rep cx.C g' (.ref R) (.list ds) → (∃ m, s'.heap.Ns D m) → g' D = none → P) : P := by
  obtain ⟨acc, g', s'', J, hQ, hkk, hrr⟩ := h
  obtain ⟨g'', e, r, hg⟩ := J.fin (L := cx.env.locals) S (I₁.ns.elim fun m₀ h => h.elim fun o h => h.elim fun _ h => h.elim fun _ h => ⟨o, h.1⟩) (fun b o hb _ e => hkk b o hb e) hrr
  exact f acc g'' hQ e r (J.ns.elim fun m hm => ⟨m, hm.at' fun o e => hkk _ o S.Dw e⟩) hg

theorem comp_core {sc' : Scope} {xs : List Str} {el iter target : Expr} {ifs : List Expr} {pos p : Pos} {it : CE} {use : Option (Value → Sem Unit)} {Q : Value → Shared → Prop} {QR : List V → List Slot → Prop} {loop : List V → List Slot → (List V → Prop) → Prop}
    (hI : SndI prog w B C n Sp it) (hcs : compScope sc sc' xs cx.vars = true) (hnd : xs.Nodup) (hset : noSet iter = true) (hit : chkE glo sc cx.vars true it iter = true) (hz : isZipC it = true → isTup target = true) (at_ : At B C n sc cx K A) (I : Inv cx K g₀ s₀ val ρ g s)
    (hw : wpE Sp it ρ fun vi ρ₁ => ∃ items, iterV vi = some items ∧ loop items ρ₁ fun r => QR r ρ₁)
    (hloop : ∀ (D R It : Addr) (cl : List (Str × Addr)) (s₁ s : Shared) (g₁ g : PH) (wr : List Addr) (items : List V) (St : Nat → Shared → Prop) (ρ₁ : List Slot), CRun B C n sc sc' cx K g₀ s₀ val ρ₁ A s₁ g₁ D R cl xs wr → MyIt prog w cx.C n target It wr (fun _ => False) g₁ items St → items.length ≤ 1048576 →
      CInv cx.C s₁ g₁ D R (ownC sc' D) wr [] g s → St 0 s → loop items ρ₁ (fun r => QR r ρ₁) →
      codeAny (model prog w) A (.compLoop (.ListComp el [⟨target, iter, ifs, 0⟩] sc' pos) 0 (.ref It) (.ref R) (cEnv sc' cx.env D cl)) (fun r s' => ∃ fl, r = .ok fl ∧ CEnd cx s₁ g₁ D R (ownC sc' D) wr (fun r => QR r ρ₁) s') s)
    (hfin : ∀ R D s₁ s' ρ₁ g₁ g' ds fl, QR ds ρ₁ → Inv cx K g₀ s₀ val ρ₁ g₁ s₁ → PH.le g g₁ → Ext cx.env.locals s₁ g₁ s' g' → Rep cx.C g' (.ref R) (.list ds) → (∃ m, s'.heap.Ns D m) → g' D = none → s₁.heap.get? D = none → compPost (model prog w) A E use Q (.ref R) D (.ok fl) s') :
    wpAny (model prog w) A (comprehension (.ListComp el [⟨target, iter, ifs, 0⟩] sc' pos) sc' cx.env p (newList []) false (eval iter cx.env) use) Q E s := by
  have Sc := compScope_spec hcs
  obtain ⟨cl, hcl, hlk⟩ := closureFor_ok (scope := sc') (env := cx.env) (fun x hx hf => by
    rcases Sc.free x hx hf with z | z
    · obtain ⟨c, hc, _⟩ := at_.own _ z; exact ⟨c, hc⟩
    · obtain ⟨c, hc, _⟩ := at_.has _ z; exact ⟨c, hc⟩)
  refine wpAny_comprehension_free (cl := cl) rfl (noSet_folded hset) hcl Sc.kind (fun x hx hl => by rw [Sc.same x hx, hl])
    (wpAny_mono (hI _ _ _ _ _ _ _ _ _ _ E (fun items ρ₁ => loop items ρ₁ fun r => QR r ρ₁) _ target hit hz at_ I hw) (fun xv sx hx => wpAny_mono hx (fun itv s₂ hp => ?_) fun _ _ e => e) fun _ _ e => e)
  obtain ⟨items, ρ₁, g₁, s₁, It, wr, St, rfl, hq, hlen, I₁, l₁, hk, hr, W, hst, hwr⟩ := hp
  refine wpAny_newList ?_
  refine compEnv_ok fun h' hk' hns cok => ?_
  have hsz2 : ∀ b o, s₁.heap.get? b = some o → b < s₂.heap.objs.size := fun b o e => Heap.lt_size (hk b o e)
  have hk3 : ∀ b o, s₂.heap.get? b = some o → h'.get? b = some o := fun b o e => hk' b o (Heap.get?_push_of_some _ e)
  obtain ⟨D, hDe⟩ : ∃ D : Nat, D = (Heap.push s₂.heap { cls := .type "list", data := .seq ([] : List Value).toArray }).objs.size := ⟨_, rfl⟩
  have hD : D = s₂.heap.objs.size + 1 := hDe.trans (Heap.size_push ..)
  have hns : h'.Ns D (fun _ => none) := hDe ▸ hns
  have cok : CellsOk h' (D + 1) (cellsFrom (D + 1) sc'.names []) := hDe ▸ cok
  have own_ge : ∀ c ∈ ownC sc' D, D + 1 ≤ c := fun c hc => (List.mem_map.mp hc).elim fun p hp => hp.2 ▸ (cok.empty p.1 p.2 hp.1).2
  have S : CompS s₁ D s₂.heap.objs.size (ownC sc' D) wr := compS_new hD (fun b o e => hsz2 b o e) own_ge (fun b hb => (W.live 0 s₂ hst b hb).elim fun o ho => Heap.lt_size ho) hwr
  have X : CRun B C n sc sc' cx K g₀ s₀ val ρ₁ A s₁ g₁ D s₂.heap.objs.size cl xs wr := ⟨at_, Sc, hnd, ⟨hlk, cok.apart, fun x c hm => (cok.empty x c hm).2⟩, S, I₁, fun b o e => hD ▸ Nat.lt_succ_of_lt (hsz2 b o e)⟩
  have I0 : CInv cx.C s₁ g₁ D s₂.heap.objs.size (ownC sc' D) wr [] g₁ { s₂ with heap := h' } :=
    ⟨fun b o e => hk3 b o (hk b o e), .refl _, fun b o e => hk3 b o (hk b o (I₁.frz b o e)), fun _ _ e => .inl e, hr.trans (.of (tk := s₂.toks)), ⟨[], 0, hk' _ _ (Heap.get?_push_size _ rfl), .nil⟩, ⟨_, hns⟩, fun c hc => (List.mem_map.mp hc).elim fun p hp => ⟨_, hp.2 ▸ (cok.empty p.1 p.2 hp.1).1⟩, fun b hb => nn fun o q => nos (S.new b hb) (I₁.frz b o q)⟩
  have st0 : St 0 { s₂ with heap := h' } := W.frame 0 s₂ _ hst (fun b _ o e => hk3 b o e) (fun b o e => hk3 b o (hk b o (I₁.frz b o e))) fun _ _ h => h.elim
  have L := hloop D s₂.heap.objs.size It cl s₁ { s₂ with heap := h' } g₁ g₁ wr items St ρ₁ X W hlen I0 st0 hq
  have goal := codeAny_mono L fun r s' hrs => (hrs.elim fun fl h => h.1 ▸ CEnd.fin S I₁ h.2 fun ds g' hQ e r hm hg => hfin _ D s₁ s' ρ₁ g₁ g' ds fl hQ I₁ l₁ e r hm hg (S.new _ (.inl rfl)) : compPost (model prog w) A E use Q (.ref s₂.heap.objs.size) D r s')
  have step : codeAny (model prog w) A (.compStart (.ListComp el [⟨target, iter, ifs, 0⟩] sc' pos) 0 (.ref It) (.ref s₂.heap.objs.size) (cEnv sc' cx.env D cl)) (compPost (model prog w) A E use Q (.ref s₂.heap.objs.size) D) { s₂ with heap := h' } :=
    codeAny_compStart_list goal (W.self A 0 _ _ _ st0 goal)
  subst hDe
  exact step

theorem comp_any {elt : CE} {tw b : Bool} {it : CE} {cond : Option CE} {e : Expr} {use : Option (Value → Sem Unit)} {Q : Value → Shared → Prop} {QR : List V → List Slot → Prop}
    (hI : SndI prog w B C n Sp it) (hE : SndE prog w B C n Sp elt) (hC : SndO prog w B C n Sp cond) (hc : chkE glo sc cx.vars b (.comp elt tw it cond) e = true) (at_ : At B C n sc cx K A) (I : Inv cx K g₀ s₀ val ρ g s)
    (hw : wpE Sp it ρ fun vi ρ₁ => ∃ items, iterV vi = some items ∧ compL (compF Sp tw elt cond ρ₁) items [] fun r => QR r ρ₁)
    (hfin : ∀ R D s₁ s' ρ₁ g₁ g' ds fl, QR ds ρ₁ → Inv cx K g₀ s₀ val ρ₁ g₁ s₁ → PH.le g g₁ → Ext cx.env.locals s₁ g₁ s' g' → Rep cx.C g' (.ref R) (.list ds) → (∃ m, s'.heap.Ns D m) → g' D = none → s₁.heap.get? D = none → compPost (model prog w) A E use Q (.ref R) D (.ok fl) s') :
    ∃ el target iter ifs sc' pos, e = .ListComp el [⟨target, iter, ifs, 0⟩] sc' pos ∧ ∀ p, wpAny (model prog w) A (comprehension (.ListComp el [⟨target, iter, ifs, 0⟩] sc' pos) sc' cx.env p (newList []) false (eval iter cx.env) use) Q E s := by
  refine eLc_el hc fun x gs sc' pos h => one_el h fun g h => ?_
  obtain ⟨target, iter, ifs, as⟩ := g
  obtain rfl : as = 0 := eq_t (a1 h)
  have h := a2 h
  have h3 := a2 (a2 h)
  cases tw with
  | false =>
    refine eName_el (e := target) h3 fun id px h3 => ?_
    exact ⟨_, _, _, _, _, _, rfl, fun p => comp_core (QR := QR) (loop := fun items ρ₁ q => compL (compF Sp false elt cond ρ₁) items [] q) hI (a1 (a2 h3)) (List.nodup_cons.mpr ⟨List.not_mem_nil, List.nodup_nil⟩) (a1 h) (a1 (a2 h)) (fun z => Bool.noConfusion (z.symm.trans (not_t (a1 h3)))) at_ I hw
      (fun D R It cl s₁ s g₁ g wr items St ρ₁ X W hl I0 st hq => comp_loop1 hE hC X W hl (a1 (a2 (a2 h3))) (a2 (a2 (a2 h3))) I0 st hq) hfin⟩
  | true =>
    cases cond with
    | some c => cases a1 h3
    | none =>
      have h4 := a2 h3
      refine eTwo_el (e := target) h4 fun i₁ p₁ i₂ p₂ k tp h4 => ?_
      refine nil0_el (l := ifs) (a2 (a2 (a2 h4))) ?_
      exact ⟨_, _, _, _, _, _, rfl, fun p => comp_core (QR := QR) (loop := fun items ρ₁ q => compL (compF Sp true elt none ρ₁) items [] q) hI (a1 (a2 h4)) (List.nodup_cons.mpr ⟨fun q => ne_t (not_t (a1 h4)) (List.mem_singleton.mp q), List.nodup_cons.mpr ⟨List.not_mem_nil, List.nodup_nil⟩⟩) (a1 h) (a1 (a2 h)) (fun _ => rfl) at_ I hw
        (fun D R It cl s₁ s g₁ g wr items St ρ₁ X W hl I0 st hq => comp_loop2 hE X W hl (a1 (a2 (a2 h4))) I0 st hq) hfin⟩
theorem snd_comp {elt : CE} {two : Bool} {it : CE} {cond : Option CE} (hI : SndI prog w B C n Sp it) (hE : SndE prog w B C n Sp elt) (hC : SndO prog w B C n Sp cond) : SndE prog w B C n Sp (.comp elt two it cond) := by
  intro sc cx K g₀ s₀ val ρ g s A E Q e hc at_ I hw
  obtain ⟨el, target, iter, ifs, sc', pos, rfl, h⟩ := comp_any (use := none) (QR := fun r ρ₁ => Q (.list r) ρ₁) hI hE hC hc at_ I hw fun R D s₁ s' ρ₁ g₁ g' ds fl hq I₁ l₁ e r hm hg h1 => (show compPost (model prog w) A E none (Post cx K g₀ s₀ val g Q) (.ref R) D (.ok fl) s' from
    hm.elim fun m hm => ⟨m, hm, fun h' hs => ⟨.list ds, ρ₁, g', hq, I₁.ext (e.forget hg h1 (I₁.ns.elim fun m₀ h => h.elim fun o h => h.elim fun _ h => h.elim fun _ h => ⟨o, h.1⟩) hs), l₁.trans e.le, r⟩⟩)
  rw [eval_ListComp]
  exact h _
end
end Mine

-- part 20
namespace Mine
section
variable {prog : Program} {w : World} {B : Heap} {C : Addr} {mg mb : Str → Option Value} {n : Nat} {Sp : Nat → List V → V → Prop}

noncomputable def SndA (prog : Program) (w : World) (B : Heap) (C : Addr) (n : Nat) (Sp : Nat → List V → V → Prop) (c : CE) : Prop := SndE prog w B C n Sp c ∧ SndI prog w B C n Sp c
theorem both {c : CE} (h : SndE prog w B C n Sp c) (hc : ∀ sc vars e, chkE glo sc vars true c e = chkE glo sc vars false c e) : SndA prog w B C n Sp c := ⟨h, sndI_list h hc⟩
theorem snd_range (a b c : CE) : SndE prog w B C n Sp (.range a b c) := fun _ _ _ _ _ _ _ _ _ _ _ _ _ hc => nomatch a1 hc
theorem snd_zip (a b : CE) : SndE prog w B C n Sp (.zip a b) := fun _ _ _ _ _ _ _ _ _ _ _ _ _ hc => nomatch a1 hc
noncomputable def SndLA (prog : Program) (w : World) (B : Heap) (C : Addr) (n : Nat) (Sp : Nat → List V → V → Prop) (l : List CE) : Prop := SndL prog w B C n Sp l
mutual
theorem sndA (S : Snd prog w B C mg mb n Sp) (hS : ∀ a, SndE prog w B C n Sp a → SndE prog w B C n Sp (.sorted a)) : ∀ c, SndA prog w B C n Sp c
  | .none => both snd_none fun _ _ _ => rfl
  | .bool b => both (snd_bool b) fun _ _ _ => rfl
  | .int i => both (snd_int i) fun _ _ _ => rfl
  | .str x => both (snd_str x) fun _ _ _ => rfl
  | .var i => both (snd_var i) fun _ _ _ => rfl
  | .bin op a b => both (snd_bin (sndA S hS a).1 (sndA S hS b).1) fun _ _ _ => rfl
  | .neg a => both (snd_neg (sndA S hS a).1) fun _ _ _ => rfl
  | .cmp op a b => both (snd_cmp (sndA S hS a).1 (sndA S hS b).1) fun _ _ _ => rfl
  | .mem no a x => both (snd_mem (sndA S hS a).1) fun _ _ _ => rfl
  | .ne0 x => both snd_ne0 fun _ _ _ => rfl
  | .bop op a b => both (snd_bop (sndA S hS a).1 (sndA S hS b).1) fun _ _ _ => rfl
  | .ite t a b => both (snd_ite (sndA S hS t).1 (sndA S hS a).1 (sndA S hS b).1) fun _ _ _ => rfl
  | .lst l => both (snd_lst (sndLs S hS l)) fun _ _ _ => rfl
  | .tup l => both (snd_tup (sndLs S hS l)) fun _ _ _ => rfl
  | .sub a i => both (snd_sub (sndA S hS a).1 (sndA S hS i).1) fun _ _ _ => rfl
  | .subv x i => both (snd_subv (sndA S hS i).1) fun _ _ _ => rfl
  | .slc a lo hi st => both (snd_slc (sndA S hS a).1 (sndOs S hS lo) (sndOs S hS hi) (sndOs S hS st)) fun _ _ _ => rfl
  | .slcv x lo hi st => both (snd_slcv (sndOs S hS lo) (sndOs S hS hi) (sndOs S hS st)) fun _ _ _ => rfl
  | .len a => both (snd_len S.base (sndA S hS a).1) fun _ _ _ => rfl
  | .lenv x => both (snd_lenv S.base) fun _ _ _ => rfl
  | .call f args => both (snd_call S (sndLs S hS args)) fun _ _ _ => rfl
  | .callv f x b => both (snd_callv S (sndA S hS b).1) fun _ _ _ => rfl
  | .max a b => both (snd_max S.base (sndA S hS a).1 (sndA S hS b).1) fun _ _ _ => rfl
  | .sum a => both (snd_sum S.base (sndA S hS a).1) fun _ _ _ => rfl
  | .tuple a => both (snd_tuple S.base (sndA S hS a).1) fun _ _ _ => rfl
  | .sorted a => both (hS a (sndA S hS a).1) fun _ _ _ => rfl
  | .join a b => both (snd_join (sndA S hS a).1 (sndA S hS b).1) fun _ _ _ => rfl
  | .split a b => both (snd_split (sndA S hS a).1 (sndA S hS b).1) fun _ _ _ => rfl
  | .pop x => both snd_pop fun _ _ _ => rfl
  | .attr a f => both (snd_attr S.attr (sndA S hS a).1) fun _ _ _ => rfl
  | .mcall a m args => both (snd_mcall S (sndA S hS a).1 (sndLs S hS args)) fun _ _ _ => rfl
  | .comp elt two it cond => both (snd_comp (sndA S hS it).2 (sndA S hS elt).1 (sndOs S hS cond)) fun _ _ _ => rfl
  | .range a b c => ⟨snd_range a b c, sndI_range S.base (sndA S hS a).1 (sndA S hS b).1 (sndA S hS c).1⟩
  | .zip a b => ⟨snd_zip a b, sndI_zip S.base (sndA S hS a).1 (sndA S hS b).1⟩
theorem sndLs (S : Snd prog w B C mg mb n Sp) (hS : ∀ a, SndE prog w B C n Sp a → SndE prog w B C n Sp (.sorted a)) : ∀ l : List CE, SndL prog w B C n Sp l
  | [] => trivial
  | c :: r => ⟨(sndA S hS c).1, sndLs S hS r⟩
theorem sndOs (S : Snd prog w B C mg mb n Sp) (hS : ∀ a, SndE prog w B C n Sp a → SndE prog w B C n Sp (.sorted a)) : ∀ o : Option CE, SndO prog w B C n Sp o
  | none => trivial
  | some c => (sndA S hS c).1
end
theorem sndT (S : Snd prog w B C mg mb n Sp) (hS : ∀ a, SndE prog w B C n Sp a → SndE prog w B C n Sp (.sorted a)) : ∀ c : CE, SndT prog w B C n Sp c
  | .bop op a b => sndT_bop (sndT S hS a) (sndT S hS b)
  | .none => SndT.of (sndA S hS (.none)).1 (fun _ _ _ => rfl)
  | .bool b => SndT.of (sndA S hS (.bool b)).1 (fun _ _ _ => rfl)
  | .int i => SndT.of (sndA S hS (.int i)).1 (fun _ _ _ => rfl)
  | .str x => SndT.of (sndA S hS (.str x)).1 (fun _ _ _ => rfl)
  | .var i => SndT.of (sndA S hS (.var i)).1 (fun _ _ _ => rfl)
  | .bin op a b => SndT.of (sndA S hS (.bin op a b)).1 (fun _ _ _ => rfl)
  | .neg a => SndT.of (sndA S hS (.neg a)).1 (fun _ _ _ => rfl)
  | .cmp op a b => SndT.of (sndA S hS (.cmp op a b)).1 (fun _ _ _ => rfl)
  | .mem no a x => SndT.of (sndA S hS (.mem no a x)).1 (fun _ _ _ => rfl)
  | .ne0 x => SndT.of (sndA S hS (.ne0 x)).1 (fun _ _ _ => rfl)
  | .ite t a b => SndT.of (sndA S hS (.ite t a b)).1 (fun _ _ _ => rfl)
  | .lst l => SndT.of (sndA S hS (.lst l)).1 (fun _ _ _ => rfl)
  | .tup l => SndT.of (sndA S hS (.tup l)).1 (fun _ _ _ => rfl)
  | .sub a i => SndT.of (sndA S hS (.sub a i)).1 (fun _ _ _ => rfl)
  | .subv x i => SndT.of (sndA S hS (.subv x i)).1 (fun _ _ _ => rfl)
  | .slc a lo hi st => SndT.of (sndA S hS (.slc a lo hi st)).1 (fun _ _ _ => rfl)
  | .slcv x lo hi st => SndT.of (sndA S hS (.slcv x lo hi st)).1 (fun _ _ _ => rfl)
  | .len a => SndT.of (sndA S hS (.len a)).1 (fun _ _ _ => rfl)
  | .lenv x => SndT.of (sndA S hS (.lenv x)).1 (fun _ _ _ => rfl)
  | .call f args => SndT.of (sndA S hS (.call f args)).1 (fun _ _ _ => rfl)
  | .callv f x b => SndT.of (sndA S hS (.callv f x b)).1 (fun _ _ _ => rfl)
  | .max a b => SndT.of (sndA S hS (.max a b)).1 (fun _ _ _ => rfl)
  | .sum a => SndT.of (sndA S hS (.sum a)).1 (fun _ _ _ => rfl)
  | .tuple a => SndT.of (sndA S hS (.tuple a)).1 (fun _ _ _ => rfl)
  | .sorted a => SndT.of (sndA S hS (.sorted a)).1 (fun _ _ _ => rfl)
  | .join a b => SndT.of (sndA S hS (.join a b)).1 (fun _ _ _ => rfl)
  | .split a b => SndT.of (sndA S hS (.split a b)).1 (fun _ _ _ => rfl)
  | .pop x => SndT.of (sndA S hS (.pop x)).1 (fun _ _ _ => rfl)
  | .attr a f => SndT.of (sndA S hS (.attr a f)).1 (fun _ _ _ => rfl)
  | .mcall a m args => SndT.of (sndA S hS (.mcall a m args)).1 (fun _ _ _ => rfl)
  | .comp elt two it cond => SndT.of (sndA S hS (.comp elt two it cond)).1 (fun _ _ _ => rfl)
  | .range a b c => SndT.of (sndA S hS (.range a b c)).1 (fun _ _ _ => rfl)
  | .zip a b => SndT.of (sndA S hS (.zip a b)).1 (fun _ _ _ => rfl)
end
end Mine

-- part 21
namespace Mine
section
variable {prog : Program} {w : World} {B : Heap} {C : Addr} {mg mb : Str → Option Value} {n : Nat} {Sp : Nat → List V → V → Prop}
variable {cx : Cx} {K g₀ g : PH} {s₀ s : Shared} {val : Nat → Value} {ρ : List Slot} {A : Around} {E : Value → Shared → Prop} {sc : Scope}

noncomputable def OutOk (cx : Cx) (K g₀ : PH) (s₀ : Shared) (val : Nat → Value) (g : PH) (s : Shared) : Flow → Out → Prop
  | .next, .next ρ => Inv cx K g₀ s₀ val ρ g s
  | .brk, .brk ρ => Inv cx K g₀ s₀ val ρ g s
  | .ret v, .ret d => (∃ ρ, Inv cx K g₀ s₀ val ρ g s) ∧ Rep cx.C g v d
  | _, _ => False
inductive PostS (cx : Cx) (K g₀ : PH) (s₀ : Shared) (Q : Out → Prop) (f : Flow) (s' : Shared) : Prop
  | mk (o : Out) (val' : Nat → Value) (g' : PH) (hq : Q o) (ok : OutOk cx K g₀ s₀ val' g' s' f o) : PostS cx K g₀ s₀ Q f s'
noncomputable def SndS (prog : Program) (w : World) (B : Heap) (C : Addr) (n : Nat) (Sp : Nat → List V → V → Prop) (c : CS) : Prop :=
  ∀ (sc : Scope) (cx : Cx) (K g₀ : PH) (s₀ : Shared) (val : Nat → Value) (ρ : List Slot) (g : PH) (s : Shared) (A : Around) (E : Value → Shared → Prop) (Q : Out → Prop) (st : Stmt),
    chkS glo sc cx.vars c st = true → At B C n sc cx K A → Inv cx K g₀ s₀ val ρ g s → wpS Sp c ρ Q → wpAny (model prog w) A (exec st cx.env) (PostS cx K g₀ s₀ Q) E s
noncomputable def SndSs (prog : Program) (w : World) (B : Heap) (C : Addr) (n : Nat) (Sp : Nat → List V → V → Prop) (c : List CS) : Prop :=
  ∀ (sc : Scope) (cx : Cx) (K g₀ : PH) (s₀ : Shared) (val : Nat → Value) (ρ : List Slot) (g : PH) (s : Shared) (A : Around) (E : Value → Shared → Prop) (Q : Out → Prop) (st : List Stmt),
    chkSs glo sc cx.vars c st = true → At B C n sc cx K A → Inv cx K g₀ s₀ val ρ g s → wpSs Sp c ρ Q → wpAny (model prog w) A (execs st cx.env) (PostS cx K g₀ s₀ Q) E s
theorem post_next {Q : Out → Prop} {ρ' : List Slot} {s' : Shared} (h : Q (.next ρ')) (I : Inv cx K g₀ s₀ val ρ' g s') : PostS cx K g₀ s₀ Q .next s' := ⟨_, _, _, h, I⟩

theorem swaps_no {value t : Expr} {line : Nat} {env : Env} (h : notComp value = true) : swapsWith value (some t) line env = pure false := by
  cases value <;> first | rfl | cases h
theorem Inv.name {j : Nat} {l : List V} (I : Inv cx K g₀ s₀ val ρ g s) (hj : ρ.getD j .undef = .own l) : ∃ x, cx.vars[j]? = some x := by
  cases q : cx.vars[j]? with
  | some x => exact ⟨x, rfl⟩
  | none =>
    rw [List.getD_eq_getElem?_getD, List.getElem?_eq_none (I.len ▸ List.getElem?_eq_none_iff.mp q)] at hj
    exact nomatch hj
theorem compPost_store {x : Nat} {id : Str} {px : Pos} {R D : Addr} {s₁ s' : Shared} {ρ₁ : List Slot} {g₁ g' : PH} {ds : List V} {fl : Flow} {Q : Value → Shared → Prop} (at_ : At B C n sc cx K A) (hst : isStore sc cx.vars x id = true) (I₁ : Inv cx K g₀ s₀ val ρ₁ g₁ s₁) (e : Ext cx.env.locals s₁ g₁ s' g')
    (r : Rep cx.C g' (.ref R) (.list ds)) (hm : ∃ m, s'.heap.Ns D m) (hg : g' D = none) (h1 : s₁.heap.get? D = none)
    (hq : ∀ val' s'', Inv cx K g₀ s₀ val' (ρ₁.set x (.fro (.list ds))) g' s'' → Q .none s'') : compPost (model prog w) A E (some (assign (.Name id px) cx.env)) Q (.ref R) D (.ok fl) s' := by
  show wpAny _ A (assign (.Name id px) cx.env (.ref R)) _ _ s'
  obtain ⟨m, hm⟩ := hm
  obtain ⟨oD, hoD⟩ : ∃ o, s'.heap.get? D = some o := hm.elim fun o h => h.elim fun _ h => h.elim fun _ h => ⟨o, h.1⟩
  have I' := I₁.ext e
  have KD : K D = none := nn fun o q => nos h1 (I₁.keep D o q)
  have g₀D : g₀ D = none := nn fun o q => nos h1 (I₁.frz D o (I₁.le₀ D o q))
  have all : ∀ {P : Nat → Prop}, P D → ∀ b ∈ [D], P b := fun p b hb => List.mem_singleton.mp hb ▸ p
  have lv : ∀ b ∈ [D], ∃ o, s'.heap.get? b = some o := all ⟨_, hoD⟩
  have I'' := I'.addK ⟨all hg, all fun hp => (I₁.priv _ hp).2.2.elim fun o ho => nos h1 ho, all fun i l hi q hv => (I₁.name q).elim fun x hx => I₁.own hx q fun a vs k O => nos h1 (Value.ref.inj (hv.symm.trans O.val) ▸ O.obj)⟩ lv
  refine wpAny_assign_Name (store_ok (sl := .fro (.list ds)) (at_.addK (X := [D]) (h := s'.heap) (all KD)) I'' hst r fun s'' J => ?_)
  exact ⟨m, hm.at' fun o ho => J.keep D o ((withK_in (List.mem_singleton.mpr rfl)).trans ho), fun h' hs => hq (updV val x (.ref R)) _ (J.dropK lv (all g₀D) (all KD) at_.lives (fun b o hb he => hs.extBut b o (fun q => hb (List.mem_singleton.mpr q)) he) (J.rest.trans (.of (tk := s''.toks))))⟩

theorem snd_assign {x : Nat} {c : CE} (S : Snd prog w B C mg mb n Sp) (hS : ∀ a, SndE prog w B C n Sp a → SndE prog w B C n Sp (.sorted a)) : SndS prog w B C n Sp (.assign x c) := by
  intro sc cx K g₀ s₀ val ρ g s A E Q st hc at_ I hw
  refine sAssign_el hc fun ts v pos h => one_el h fun t h => eName_el h fun id px h => ?_
  have norm : swapsWith v (some (.Name id px)) pos.line cx.env = pure false → _ := fun q =>
    wpAny_Assign_Name (E := E) ((sndA S hS c).1.then (a2 (a2 h)) at_ I hw fun d ρ₁ g₁ va s₁ hq I₁ l₁ r₁ => store_ok (sl := .fro d) at_ I₁ (a1 h) r₁ fun s₂ I₂ => post_next hq I₂) q
  refine (or_t (a1 (a2 h))).elim (fun q => ?_) fun q => norm (swaps_no q)
  have h2 := a2 (a2 h)
  revert h2 hw
  refine CE.comp.elim (motive_1 := fun c => wpS Sp (.assign x c) ρ Q → chkE glo sc cx.vars false c v = true → _) c (eq_t q) fun elt tw it cond hw h2 => ?_
  obtain ⟨el, target, iter, ifs, sc', p, rfl, f⟩ := comp_any (use := some (assign (.Name id px) cx.env)) (QR := fun r ρ₁ => Q (.next (ρ₁.set x (.fro (.list r))))) (sndA S hS it).2 (sndA S hS elt).1 (sndOs S hS cond) h2 at_ I hw
    fun R D s₁ s' ρ₁ g₁ g' ds fl hq I₁ l₁ e r hm hg h1 => compPost_store (Q := fun _ s'' => PostS cx K g₀ s₀ Q .next s'') at_ (a1 h) I₁ e r hm hg h1 fun val' s'' J => post_next hq J
  obtain ⟨b, hb⟩ : ∃ b, swapsWith (.ListComp el [⟨target, iter, ifs, 0⟩] sc' p) (some (.Name id px)) pos.line cx.env = pure b := ⟨_, rfl⟩
  cases b with
  | false => exact norm hb
  | true =>
  rw [exec_Assign_Name_used _ _ _ _ hb]
  exact wpAny_bind (wpAny_standAt (wpAny_bind (wpAny_bind (wpAny_mono (f _) (fun _ s' hq => wpAny_pure (wpAny_pure hq)) fun _ _ e => e))))

theorem own_new {x : Nat} {id : Str} {vs : List Value} {l : List V} {k tk : Nat} {Q : Unit → Shared → Prop} (at_ : At B C n sc cx K A) (I : Inv cx K g₀ s₀ val ρ g s) (hst : isStore sc cx.vars x id = true) (r : Reps cx.C g vs l)
    (hq : ∀ val' s', Inv cx K g₀ s₀ val' (ρ.set x (.own l)) g s' → Q () s') : wpAny (model prog w) A (storeName cx.env id (.ref s.heap.objs.size)) Q E { s with heap := s.heap.push (lstObj vs k), toks := tk } := by
  have I' := I.ext (Ext.of (tk := tk) I.frz fun b o e => Heap.get?_push_of_some (lstObj vs k) e)
  have fr := fresh_size s.heap
  exact store_ok (sl := .own l) at_ I' hst ⟨_, vs, rfl, ⟨k, Heap.get?_push_size _ rfl⟩, r, nn fun o q => nos fr (I.frz _ o q), nn fun o q => nos fr (I.keep _ o q), fun hp => (I.priv _ hp).2.2.elim fun o ho => nos fr ho,
    fun j l' hj _ hv => (I.name hj).elim fun x hx => I.own hx hj fun a vs k O => nos fr (Value.ref.inj (hv.symm.trans O.val) ▸ O.obj)⟩ fun s' J => hq _ _ J

theorem snd_ownList {x : Nat} {es : List CE} (hl : SndL prog w B C n Sp es) : SndS prog w B C n Sp (.ownList x es) := by
  intro sc cx K g₀ s₀ val ρ g s A E Q st hc at_ I hw
  refine sAssign_el hc fun ts v pos h => one_el h fun t h => eName_el h fun id px h => eList_el h fun es p h => ?_
  refine wpAny_Assign_Name ?_ rfl
  rw [arm_eval_List]
  refine wpAny_bind (wpAny_standAt (wpAny_bind (wpAny_mono (spliced_sound hl (a2 (a2 h)) at_ I hw) (fun vs s₁ p => ?_) fun _ _ x => x)))
  obtain ⟨hlen, ds, ρ₁, g₁, hq, I₁, l₁, r₁⟩ := p
  exact wpAny_newList (own_new (k := 0) (tk := s₁.toks) at_ I₁ (a1 (a2 h)) r₁ fun val' s' J => post_next hq J) (size_ok (Nat.le_trans (hlen ▸ of_decide_eq_true (a1 h)) (by decide)))

theorem snd_ret {c : CE} (h : SndE prog w B C n Sp c) : SndS prog w B C n Sp (.ret c) := by
  intro sc cx K g₀ s₀ val ρ g s A E Q st hc at_ I hw
  refine sRet_el hc fun v pos hc => opt_el hc fun v hc => ?_
  exact wpAny_Return_some (h.then hc at_ I hw fun d ρ₁ g₁ va s₁ hq I₁ l₁ r₁ => ⟨_, _, _, hq, ⟨_, I₁⟩, r₁⟩)
theorem snd_brk : SndS prog w B C n Sp .brk := by
  intro sc cx K g₀ s₀ val ρ g s A E Q st hc at_ I hw
  refine sBreak_el hc fun pos _ => ?_
  exact wpAny_Break ⟨_, _, _, hw, I⟩
theorem aug_op {op : Operator} {i : Int} {t : Tok} {va : Value} {d r : V} {Q : Value → Shared → Prop} (hop : op = .Add ∨ op = .Sub ∨ op = .FloorDiv) (r₁ : Rep cx.C g va d) (hr : binV op (.int i) d = some r) (fin : ∀ (j : Int) (t' : Tok) (tk : Nat), r = .int j → Q (.int j t') { s with toks := tk }) :
    wpAny (model prog w) A (inplaceOp op (.int i t) va) Q E s := by
  rcases hop with rfl | rfl | rfl
  · obtain ⟨j, rfl, hr⟩ := onInt_inv (k := fun j => some (V.int (i + j))) hr
    exact r₁.intE fun u => PySem.AutoIntOps.iadd_0 (fin _ _ _ (Option.some.inj hr).symm)
  · obtain ⟨j, rfl, hr⟩ := onInt_inv (k := fun j => some (V.int (i - j))) hr
    exact r₁.intE fun u => PySem.AutoIntOps.isub_0 (fin _ _ _ (Option.some.inj hr).symm)
  · obtain ⟨j, rfl, hr⟩ := onInt_inv (k := fun b => if b ≠ 0 ∧ b.natAbs < 1073741824 then some (V.int (i.fdiv b)) else none) hr
    obtain ⟨hb, rfl⟩ := ite_some hr
    exact r₁.intE fun u => PySem.AutoIntOps.ifloordiv_1 (fun q => hb.1 (eq_t q)) (fun q => Bool.noConfusion ((PyProof.noPylong_small hb.2).symm.trans q)) (fin _ _ _ rfl)
theorem snd_aug {x : Nat} {op : Operator} {c : CE} (h : SndE prog w B C n Sp c) : SndS prog w B C n Sp (.aug x op c) := by
  intro sc cx K g₀ s₀ val ρ g s A E Q st hc at_ I hw
  refine sAug_el hc fun t op' v pos hc => eName_el hc fun id px hc => ?_
  obtain rfl := eq_t (a1 hc)
  have hc := a2 hc
  obtain ⟨i, ha, hw⟩ := hw
  have h1 := a1 (a2 hc)
  refine wpAny_AugAssign_Name (load_var at_ I h1 (by rw [ha]; rfl) (h.then (a2 (a2 (a2 hc))) at_ I hw fun d ρ₁ g₁ va s₁ hq I₁ l₁ r₁ => ?_))
  obtain ⟨r, hr, hq⟩ := hq
  refine (I.fro (isVar_at h1) ha).2.elim fun t hv => hv ▸ aug_op ((or_t (a1 hc)).imp eq_t fun q => (or_t q).imp eq_t eq_t) r₁ hr fun j t' tk e => ?_
  subst e
  exact store_ok (sl := .fro (.int j)) at_ (I₁.ext (Ext.tok I₁.frz)) (a1 (a2 (a2 hc))) (show Rep cx.C g₁ (.int j t') (.int j) from .int _ _) fun s₂ I₂ => post_next hq I₂
end
end Mine

-- part 22
namespace Mine
section
variable {prog : Program} {w : World} {B : Heap} {C : Addr} {mg mb : Str → Option Value} {n : Nat} {Sp : Nat → List V → V → Prop}
variable {cx : Cx} {K g₀ g : PH} {s₀ s : Shared} {val : Nat → Value} {ρ : List Slot} {A : Around} {E : Value → Shared → Prop} {sc : Scope}

theorem Inv.rebase (I : Inv cx K g₀ s₀ val ρ g s) : Inv cx K g s val ρ g s := ⟨I.frz, I.keep, .refl g, fun _ _ e => .inl e, .refl s, I.slot, I.inj, I.priv, I.ns, I.lp, I.len, I.cells⟩
theorem Inv.unbase {val₁ : Nat → Value} {ρ₁ : List Slot} {s' : Shared} {g' : PH} (I : Inv cx K g₀ s₀ val₁ ρ₁ g s) (J : Inv cx K g s val ρ g' s') : Inv cx K g₀ s₀ val ρ g' s' :=
  ⟨J.frz, J.keep, I.le₀.trans J.le₀, fun b o e => (J.new b o e).elim (I.new b o) .inr, I.rest.trans J.rest, J.slot, J.inj, J.priv, J.ns, J.lp, J.len, J.cells⟩
@[elab_as_elim] theorem OutOk.elim {P : Flow → Out → Prop} {val' : Nat → Value} {g' : PH} {s' : Shared} {f : Flow} {o : Out} (h : OutOk cx K g₀ s₀ val' g' s' f o) (h1 : ∀ ρ, Inv cx K g₀ s₀ val' ρ g' s' → P .next (.next ρ)) (h2 : ∀ ρ, Inv cx K g₀ s₀ val' ρ g' s' → P .brk (.brk ρ))
    (h3 : ∀ v d ρ, Inv cx K g₀ s₀ val' ρ g' s' → Rep cx.C g' v d → P (.ret v) (.ret d)) : P f o := by
  cases o with
  | next ρ => cases f <;> first | exact h1 _ h | exact False.elim h
  | brk ρ => cases f <;> first | exact h2 _ h | exact False.elim h
  | ret d => cases f <;> first | exact h.1.elim fun ρ J => h3 _ _ ρ J h.2 | exact False.elim h
theorem OutOk.unbase {val₁ val' : Nat → Value} {ρ₁ : List Slot} {s' : Shared} {g' : PH} {f : Flow} {o : Out} (I : Inv cx K g₀ s₀ val₁ ρ₁ g s) (h : OutOk cx K g s val' g' s' f o) : OutOk cx K g₀ s₀ val' g' s' f o :=
  h.elim (fun _ J => I.unbase J) (fun _ J => I.unbase J) fun _ _ _ J r => ⟨⟨_, I.unbase J⟩, r⟩

theorem Inv.stepE {X : List Addr} {G : Nat → Prop} {s' : Shared} {g' : PH} (I : Inv cx (withK K X s.heap) g₀ s₀ val ρ g s) (hX : ∀ b ∈ X, ∃ o, s.heap.get? b = some o) (h0 : ∀ b ∈ X, g₀ b = none) (hK : ∀ b ∈ X, K b = none) (lives : ∀ x c, cx.env.cells.lookup x = some c → c ∈ cx.P ∨ ∃ o, K c = some o)
    (hG : ∀ i, G i → s₀.gens[i]? = none) (e : StepE X G s g s' g') : Inv cx K g₀ s₀ val ρ g' s' ∧ Off cx K g' val ρ X := by
  have O := I.off hX h0
  have J := I.dropK (s' := s') hX h0 hK lives e.keep (I.rest.stepG e.rest hG)
  refine ⟨⟨e.frz, J.keep, I.le₀.trans e.le, fun b o h => (e.new b o h).elim (J.new b o) fun z => .inr (nn fun o' q => nos z (I.keep b o' ((withK_out fun hb => nos (hK b hb) q).trans q))), J.rest, fun i x hx => ?_, I.inj, fun b hb => ?_, J.ns, J.lp, J.len, J.cells⟩, ⟨fun b hb => e.none (O.g b hb) (hX b hb), O.P, O.own⟩⟩
  · exact (J.slot i x hx).to id (fun _ _ r => r.mono e.le) fun l q a vs k O' => ⟨O'.reps.mono e.le, ⟨k, O'.obj⟩, I.own hx q fun a' vs' k' O₀ => (Value.ref.inj (O'.val.symm.trans O₀.val)) ▸ e.none O₀.g ⟨_, O₀.obj⟩, O'.K⟩
  · have p := I.priv b hb
    exact ⟨e.none p.1 p.2.2, (J.priv b hb).2.1, (J.priv b hb).2.2⟩

theorem own_case {sl : Slot} {P : List V → Prop} (h : match sl with | .own l => P l | _ => False) : ∃ l, sl = .own l ∧ P l := match sl, h with
  | .own l, h => ⟨l, rfl, h⟩
theorem snd_append {x : Nat} {c : CE} (h : SndE prog w B C n Sp c) : SndS prog w B C n Sp (.append x c) := by
  intro sc cx K g₀ s₀ val ρ g s A E Q st hc at_ I hw
  refine sExpr_el hc fun v pos hc => eCallM_el hc fun o m p es q hl hc => one_el hc fun y hc => ?_
  obtain rfl := eq_t (a1 hc)
  refine eName_el (P := fun o => wpAny _ A (exec (.Expr (.Call (.Attribute o "append" p) [y] [] q) pos) cx.env) _ E s) (a2 hc) fun id px hc => ?_
  obtain ⟨⟨l₀, hl₀⟩, hw⟩ := hw
  have h3 := a1 (a2 hc)
  refine I.own (isVar_at h3) hl₀ fun a vs k O => ?_
  refine wpAny_Expr ?_ (by unfold interactive; rw [at_.env.kind]; rfl) rfl
  refine wpAny_Call_method_late (base_of rfl) (few_of (backTo1 (a1 hc)) rfl (by decide : 1 < 16)) (beq_iff_eq.mpr hl) (backTo1 (a1 hc)) (name_var at_ I h3 (by rw [hl₀]; rfl) ?_)
  rw [O.val]
  refine ⟨"list", "list.append", PySem.F.plainAttrs_list, slot_list_append, PySem.F.type_list_append, ⟨_, O.obj, rfl⟩, fun b hb => Value.ref.inj hb ▸ ⟨_, O.obj, rfl⟩, callWith_builtin rfl (evalArgs_plain (spliced_cons (h.then (a2 (a2 hc)) at_ I hw fun d₁ ρ₁ g₁ va s₁ hq I₁ l₁ r₁ => spliced_nil ?_)))⟩
  obtain ⟨l, q, hlen, hq⟩ := own_case hq
  refine I₁.own (isVar_at h3) q fun a' vs' k' O' => ?_
  obtain rfl : a = a' := Value.ref.inj (O.val.symm.trans O'.val)
  refine wpAny_list_append_plain ⟨k', O'.obj⟩ (fun h' hp' hs' => ?_) (size_ok (n := vs'.length) (O'.reps.length ▸ hlen))
  exact hp'.elim fun k'' hk'' => post_next hq (I₁.setOwn2 (vs' := vs' ++ [va]) (k' := k'') (tk := s₁.toks) (isVar_at h3) q O.val (fun b o hb e => hs'.extBut b o hb e) (hk''.trans (by rw [List.push_toArray]; rfl)) (O'.reps.append (.one r₁)))
end
end Mine

-- part 23
namespace Mine
section
variable {prog : Program} {w : World} {B : Heap} {C : Addr} {mg mb : Str → Option Value} {n : Nat} {Sp : Nat → List V → V → Prop}
variable {cx : Cx} {K g₀ g : PH} {s₀ s : Shared} {val : Nat → Value} {ρ : List Slot} {A : Around} {E : Value → Shared → Prop} {sc : Scope}

theorem pair_case {d : V} {P : V → V → Prop} (h : match d with | .tup [a, b] => P a b | _ => False) : ∃ a b, d = .tup [a, b] ∧ P a b := match d, h with
  | .tup [a, b], h => ⟨a, b, rfl, h⟩
theorem bindP_inv {x y : Nat} {d : V} {k : List Slot → Prop} (h : bindP x y d ρ k) : ∃ a b, d = .tup [a, b] ∧ k ((ρ.set x (.fro a)).set y (.fro b)) := pair_case h
theorem stores_no {es : List Expr} {k : Nat} {p : Pos} {v : Expr} {env : Env} (h : v.ctorIdx ≠ 25) : swappedStores [.Tuple es k p] v env = pure none := by
  cases v <;> first | rfl | exact absurd rfl h
theorem tup_no {v : Expr} {line : Nat} {es : List Expr} {k : Nat} {p : Pos} {env : Env} : swapsWithSole [.Tuple es k p] v line env = pure false := by
  cases v <;> rfl
theorem snd_unpack {x y : Nat} {c : CE} (h : SndE prog w B C n Sp c) : SndS prog w B C n Sp (.unpack x y c) := by
  intro sc cx K g₀ s₀ val ρ g s A E Q st hc at_ I hw
  refine sAssign_el hc fun ts v pos h1 => one_el h1 fun t h1 => eTwo_el h1 fun i₁ p₁ i₂ p₂ kk tp h1 => ?_
  have h2 := a2 h1
  have h3 := a2 (a2 h2)
  refine Assign_Tuple (h.then (a2 h3) at_ I hw fun d ρ₁ g₁ va s₁ hq I₁ l₁ r₁ => ?_) tup_no (stores_no (bne_iff_ne.mp (a1 h3)))
  obtain ⟨d₁, d₂, rfl, hq⟩ := bindP_inv hq
  exact pair_ok at_ I₁ (a1 h2) (a1 (a2 h2)) r₁ fun s' val' J => post_next hq J

theorem snd_ownCat {x y : Nat} {c : CE} (h : SndE prog w B C n Sp c) : SndS prog w B C n Sp (.ownCat x y c) := by
  intro sc cx K g₀ s₀ val ρ g s A E Q st hc at_ I hw
  refine sAssign_el hc fun ts v pos h1 => one_el h1 fun t h1 => eName_el h1 fun id px h1 => eBin_el h1 fun l op r p h1 => ?_
  obtain rfl := eq_t (a1 h1)
  refine eName_el (e := l) (a2 h1) fun id₂ p₂ h1 => ?_
  have h2 := a1 (a2 h1)
  obtain ⟨hne, hw⟩ := hw
  refine (some_of_ne hne).elim fun d hd => wpAny_Assign_Name (wpAny_BinOp (name_var at_ I h2 hd (h.then (a2 (a2 h1)) at_ I hw fun d₁ ρ₁ g₁ va s₁ hq I₁ l₁ r₁ => ?_))) rfl
  obtain ⟨l, l', hl, rfl, hlen, hq⟩ := hq
  refine (I₁.seen (isVar_at h2) hl).listE I₁.here fun a vs k ha ra => ?_
  refine r₁.listE I₁.frz fun b ws k' _ hb rb => ?_
  exact cat_lists ha hb (by rw [ra.length, rb.length]; exact hlen) (own_new (k := 0) (tk := s₁.toks) at_ I₁ (a1 h1) (ra.append rb) fun val' s' J => post_next hq J)

theorem chain_ok {v : Value} {d : V} {Q : Unit → Shared → Prop} (at_ : At B C n sc cx K A) (r : Rep cx.C g v d) : ∀ {xs : List Nat} {ts : List Expr} {val : Nat → Value} {ρ : List Slot} {s : Shared}, chkNames sc cx.vars xs ts = true → Inv cx K g₀ s₀ val ρ g s →
    (∀ val' s', Inv cx K g₀ s₀ val' (xs.foldl (fun r x => r.set x (.fro d)) ρ) g s' → Q () s') → wpAny (model prog w) A (assignAll v ((assignEach ts cx.env).map (·.2))) Q E s
  | [], ts, val, ρ, s, hc, I, hq => nil0_el (l := ts) hc (wpAny_pure (hq _ _ I))
  | x :: xs, ts, val, ρ, s, hc, I, hq => by
    refine unc_el hc fun t ts h => eName_el h fun id p h => ?_
    have one : ∀ {Q' : Unit → Shared → Prop}, (∀ val' s', Inv cx K g₀ s₀ val' (ρ.set x (.fro d)) g s' → Q' () s') → wpAny (model prog w) A (assign (.Name id p) cx.env v) Q' E s := fun hq => wpAny_assign_Name (store_ok (sl := .fro d) at_ I (a1 (a2 h)) r fun s' J => hq _ _ J)
    cases xs with
    | nil => exact nil0_el (l := ts) (a2 (a2 h)) (one hq)
    | cons x' xs =>
      have hh : chkNames sc cx.vars (x' :: xs) ts = true := a2 (a2 h)
      have ih := fun val' s' (J : Inv cx K g₀ s₀ val' (ρ.set x (.fro d)) g s') => chain_ok at_ r hh J hq
      revert ih
      refine unc_el (l := ts) hh fun t' ts' h' => eName_el (e := t') h' fun id' p' _ ih => ?_
      show wpAny _ A (do holding [v] (assign (.Name id p) cx.env v); assignAll v ((assignEach (.Name id' p' :: ts') cx.env).map (·.2))) _ _ _
      exact wpAny_bind (wpAny_holding (one ih))
theorem snd_chain {xs : List Nat} {c : CE} (h : SndE prog w B C n Sp c) : SndS prog w B C n Sp (.chain xs c) := by
  intro sc cx K g₀ s₀ val ρ g s A E Q st hc at_ I hw
  refine sAssign_el hc fun ts v pos h1 => ?_
  have h2 := a2 (a2 h1)
  have e1 : ∃ id p t' ts', ts = .Name id p :: t' :: ts' := match xs, of_decide_eq_true (a1 h1), a1 (a2 h1) with
    | _ :: _ :: _, _, h => unc_el (l := ts) h fun t ts h => eName_el h fun _ _ h => unc_el (l := ts) (a2 (a2 h)) fun t' ts' _ => ⟨_, _, _, _, rfl⟩
  obtain ⟨id, p, t', ts', rfl⟩ := e1
  exact wpAny_Assign_stores (h.then (a1 h2) at_ I hw fun d ρ₁ g₁ va s₁ hq I₁ l₁ r₁ => chain_ok at_ r₁ (a1 (a2 h1)) I₁ fun val' s' J => post_next hq J) rfl rfl

theorem PostS.unbase {val₁ : Nat → Value} {ρ₁ : List Slot} {s' : Shared} {f : Flow} {Q : Out → Prop} (I : Inv cx K g₀ s₀ val₁ ρ₁ g s) (h : PostS cx K g s Q f s') : PostS cx K g₀ s₀ Q f s' :=
  let ⟨o, v', g', hq, ok⟩ := h; ⟨o, v', g', hq, ok.unbase I⟩
theorem sub_iteS {b : List CS} {body : List Stmt} {Q : Out → Prop} (hb : SndSs prog w B C n Sp b) (h : chkSs glo sc cx.vars b body = true) (at_ : At B C n sc cx K A) (I : Inv cx K g₀ s₀ val ρ g s) (hw : wpSs Sp b ρ Q) : wpAny (model prog w) A (execs body cx.env) (PostS cx K g₀ s₀ Q) E s :=
  wpAny_mono (hb _ _ _ _ _ _ _ _ _ _ E _ _ h at_ I.rebase hw) (fun _ _ p => p.unbase I) fun _ _ e => e
theorem snd_iteS {t : CE} {a b : List CS} (ht : SndT prog w B C n Sp t) (ha : SndSs prog w B C n Sp a) (hb : SndSs prog w B C n Sp b) : SndS prog w B C n Sp (.ite t a b) := by
  intro sc cx K g₀ s₀ val ρ g s A E Q st hc at_ I hw
  refine sIf_el hc fun t' a' b' pos h => ?_
  refine wpAny_If (wpAny_mono (ht _ _ _ _ _ _ _ _ _ _ E (fun x ρ₁ => (x = true → wpSs Sp a ρ₁ Q) ∧ (x = false → wpSs Sp b ρ₁ Q)) _ (a1 h) at_ I hw) (fun x s₁ p => ?_) fun _ _ e => e)
  obtain ⟨ρ₁, g₁, hq, I₁, l₁⟩ := p
  cases x with
  | true => exact (sub_iteS ha (a1 (a2 h)) at_ I₁ (hq.1 rfl) : wpAny _ A (execs a' cx.env) _ _ _)
  | false => exact (sub_iteS hb (a2 (a2 h)) at_ I₁ (hq.2 rfl) : wpAny _ A (execs b' cx.env) _ _ _)

theorem snd_nilS : SndSs prog w B C n Sp [] := fun _ _ _ _ _ _ _ _ _ _ _ _ st hc _ I hw => nil0_el (l := st) hc (wpAny_execs_nil (post_next hw I))
theorem snd_consS {c : CS} {r : List CS} (h : SndS prog w B C n Sp c) (hr : SndSs prog w B C n Sp r) : SndSs prog w B C n Sp (c :: r) := by
  intro sc cx K g₀ s₀ val ρ g s A E Q st hc at_ I hw
  refine unc_el hc fun e es hc => ?_
  refine wpAny_execs_cons (wpAny_mono (h _ _ _ _ _ _ _ _ _ _ E _ _ (a1 hc) at_ I hw) (fun f s' p => ?_) fun _ _ e => e)
  obtain ⟨o, v', g', ho, ok⟩ := p
  revert ho
  exact ok.elim (fun ρ' J ho => hr _ _ _ _ _ _ _ _ _ _ E _ _ (a2 hc) at_ J ho) (fun ρ' J ho => ⟨_, v', g', ho, J⟩) fun v d ρ' J r ho => ⟨_, v', g', ho, ⟨ρ', J⟩, r⟩

@[elab_as_elim] theorem turn_out {P : Flow → Prop} {s' : Shared} {k : List Slot → Prop} {Q : Out → Prop} {f : Flow} (h : PostS cx K g₀ s₀ (loopOut k Q) f s') (h1 : ∀ val' ρ' g', Inv cx K g₀ s₀ val' ρ' g' s' → k ρ' → P .next) (h2 : ∀ val' ρ' g', Inv cx K g₀ s₀ val' ρ' g' s' → Q (.next ρ') → P .brk)
    (h3 : ∀ v val' ρ' g' d, Inv cx K g₀ s₀ val' ρ' g' s' → Rep cx.C g' v d → Q (.ret d) → P (.ret v)) : P f := by
  obtain ⟨o, v', g', ho, ok⟩ := h
  revert ho
  exact ok.elim (fun ρ' J ho => h1 _ _ _ J ho) (fun ρ' J ho => h2 _ _ _ J ho) fun v d ρ' J r ho => h3 _ _ _ _ _ J r ho
theorem whil_ok {t : CE} {b : List CS} {test : Expr} {body : List Stmt} {Q : Out → Prop} {N : Nat} {F : List Slot → (Bool → List Slot → Prop) → Prop} {G : List Slot → (Out → Prop) → Prop} (hF : ∀ ρ k, F ρ k → wpE Sp t ρ fun v ρ₁ => ∃ x, v = .bool x ∧ k x ρ₁) (hG : ∀ ρ k, G ρ k → wpSs Sp b ρ k)
    (ht : SndT prog w B C n Sp t) (hb : SndSs prog w B C n Sp b) (h1 : chkT glo sc cx.vars t test = true) (h2 : chkSs glo sc cx.vars b body = true) (at_ : At B C n sc cx K A) (I : Inv cx K g₀ s₀ val ρ g s) (hw : whileN F G N ρ Q) :
    codeAny (model prog w) A (.whileLoop test body [] cx.env) (fun r s' => match r with | .ok f => PostS cx K g₀ s₀ Q f s' | .error e => cameBackBy (model prog w) A cx.env E e s') s := by
  refine codeAny_whileLoop (I := fun m s => ∃ val ρ g, Inv cx K g₀ s₀ val ρ g s ∧ whileN F G m ρ Q) ?_ N ⟨val, ρ, g, I, hw⟩
  intro m s h
  obtain ⟨val, ρ, g, I, hw⟩ := h
  cases m with
  | zero => exact False.elim hw
  | succ m =>
    refine wpAny_mono (ht _ _ _ _ _ _ _ _ _ _ _ _ _ h1 at_ I (hF _ _ hw)) (fun x s₁ p => ?_) fun _ _ e => e
    obtain ⟨ρ₁, g₁, hq, I₁, l₁⟩ := p
    cases x with
    | false => exact (wpAny_execs_nil (post_next (hq.1 rfl) I₁) : wpAny _ A (execs [] cx.env) _ _ _)
    | true =>
      show wpAny _ A (execs body cx.env) _ _ _
      exact wpAny_mono (sub_iteS hb h2 at_ I₁ (hG _ _ (hq.2 rfl))) (fun f s' p => turn_out p (fun v' ρ' g' J ho => ⟨m, Nat.lt_succ_self m, v', ρ', g', J, ho⟩) (fun v' ρ' g' J ho => post_next ho J) fun v v' ρ' g' d J r ho => ⟨_, v', g', ho, ⟨ρ', J⟩, r⟩) fun _ _ e => e
theorem snd_whil {t : CE} {b : List CS} (ht : SndT prog w B C n Sp t) (hb : SndSs prog w B C n Sp b) : SndS prog w B C n Sp (.whil t b) := by
  intro sc cx K g₀ s₀ val ρ g s A E Q st hc at_ I hw
  refine sWhile_el hc fun t' b' o pos h => nil0_el (l := o) (a1 h) ?_
  exact hw.elim fun N hw => wpAny_While (whil_ok (fun _ _ h => h) (fun _ _ h => h) ht hb (a1 (a2 h)) (a2 (a2 h)) at_ I hw)

noncomputable def BindOk (prog : Program) (w : World) (B : Heap) (C : Addr) (n : Nat) (sc : Scope) (cx : Cx) (A : Around) (target : Expr) (bind : V → List Slot → (List Slot → Prop) → Prop) : Prop :=
  ∀ (K g₀ : PH) (s₀ : Shared) (val : Nat → Value) (ρ : List Slot) (g : PH) (s : Shared) (E : Value → Shared → Prop) (v : Value) (d : V) (k : List Slot → Prop) (Q : Unit → Shared → Prop), At B C n sc cx K A → Inv cx K g₀ s₀ val ρ g s → Rep cx.C g v d → bind d ρ k →
    (∀ val' ρ' s', k ρ' → Inv cx K g₀ s₀ val' ρ' g s' → Q () s') → wpAny (model prog w) A (assign target cx.env v) Q E s
theorem withK_same {X : List Addr} {h h' : Heap} (hk : ∀ b ∈ X, ∀ o, h.get? b = some o → h'.get? b = some o) (hl : ∀ b ∈ X, ∃ o, h.get? b = some o) : withK K X h' = withK K X h := funext fun b => by
  by_cases hb : b ∈ X
  · exact (hl b hb).elim fun o ho => (withK_in hb).trans ((hk b hb o ho).trans (ho.symm.trans (withK_in hb).symm))
  · exact (withK_out hb).trans (withK_out hb).symm
theorem turn {target : Expr} {body : List Stmt} {b : List CS} {bind : V → List Slot → (List Slot → Prop) → Prop} {Q : Out → Prop} {k : List Slot → Prop} {wr : List Addr} {d : V} {v : Value} {R : Flow → Shared → Prop} {G : List Slot → (Out → Prop) → Prop} (hG : ∀ ρ k, G ρ k → wpSs Sp b ρ k) (hb : SndSs prog w B C n Sp b) (hbind : BindOk prog w B C n sc cx A target bind)
    (h2 : chkSs glo sc cx.vars b body = true) (at_ : At B C n sc cx K A) (hK : ∀ b ∈ wr, K b = none) (h0 : ∀ b ∈ wr, g₀ b = none) (lv : ∀ b ∈ wr, ∃ o, s.heap.get? b = some o) (I : Inv cx K g₀ s₀ val ρ g s) (O : Off cx K g val ρ wr) (r : Rep cx.C g v d)
    (hw : bind d ρ fun ρ₁ => G ρ₁ (loopOut k Q))
    (hn : ∀ s' val' ρ' g', Inv cx (withK K wr s'.heap) g₀ s₀ val' ρ' g' s' → PH.le g g' → (∀ b ∈ wr, ∀ o, s.heap.get? b = some o → s'.heap.get? b = some o) → Rest s s' → k ρ' → R .next s') (hx1 : ∀ s', PostS cx K g₀ s₀ Q .next s' → R .brk s') (hx2 : ∀ v s', PostS cx K g₀ s₀ Q (.ret v) s' → R (.ret v) s') :
    wpAny (model prog w) A (assign target cx.env v) (fun _ s => wpAny (model prog w) A (execs body cx.env) R E s) E s := by
  have I' := I.addK O lv
  have at' := at_.addK (X := wr) (h := s.heap) hK
  refine hbind _ _ _ _ _ _ _ _ _ _ _ _ at' I'.rebase r hw fun val₂ ρ₂ s₂ hk I₂ => ?_
  refine wpAny_mono (hb _ _ _ _ _ _ _ _ _ _ _ _ _ h2 at' I₂ (hG _ _ hk)) (fun f s₃ p => ?_) fun _ _ e => e
  have drop : ∀ {val₃ ρ₃ g₃}, Inv cx (withK K wr s.heap) g s val₃ ρ₃ g₃ s₃ → Inv cx K g₀ s₀ val₃ ρ₃ g₃ s₃ := fun J => (I'.unbase J).dropK (s' := s₃) lv h0 hK at_.lives (fun _ _ _ e => e) (I'.unbase J).rest
  refine turn_out p (fun v' ρ' g' J ho => ?_) (fun v' ρ' g' J ho => hx1 _ (post_next ho (drop J))) fun v v' ρ' g' d J r ho => hx2 v _ ⟨_, v', g', ho, ⟨ρ', drop J⟩, r⟩
  have wk : ∀ b ∈ wr, ∀ o, s.heap.get? b = some o → s₃.heap.get? b = some o := fun b hb o e => J.keep b o ((withK_in hb).trans e)
  exact hn s₃ v' ρ' g' ((withK_same (K := K) wk lv).symm ▸ I'.unbase J) J.le₀ wk J.rest ho
inductive ForI (cx : Cx) (K g₀ : PH) (s₀ : Shared) (g₁ : PH) (wr : List Addr) (St : Nat → Shared → Prop) (items : List V) (F : List V → List Slot → Prop) (m : Nat) (s : Shared) : Prop
  | mk (i : Nat) (val : Nat → Value) (ρ : List Slot) (g : PH) (e : m = items.length - i) (hi : i ≤ items.length) (I : Inv cx (withK K wr s.heap) g₀ s₀ val ρ g s) (hle : PH.le g₁ g) (st : St i s) (hw : F (items.drop i) ρ) : ForI cx K g₀ s₀ g₁ wr St items F m s
theorem for_ok {target : Expr} {body : List Stmt} {b : List CS} {bind : V → List Slot → (List Slot → Prop) → Prop} {Q : Out → Prop} {It : Addr} {wr : List Addr} {G : Nat → Prop} {g₁ : PH} {items : List V} {St : Nat → Shared → Prop} {F : List Slot → (Out → Prop) → Prop} (hF : ∀ ρ k, F ρ k → wpSs Sp b ρ k) (hb : SndSs prog w B C n Sp b) (hbind : BindOk prog w B C n sc cx A target bind)
    (h2 : chkSs glo sc cx.vars b body = true) (at_ : At B C n sc cx K A) (I : Inv cx K g₀ s₀ val ρ g₁ s) (hO : Off cx K g₁ val ρ wr) (hK : ∀ b ∈ wr, K b = none) (h0 : ∀ b ∈ wr, g₀ b = none) (hG : ∀ i, G i → s₀.gens[i]? = none)
    (W : MyIt prog w cx.C n target It wr G g₁ items St) (hst : St 0 s) (hw : forL bind F items ρ Q) :
    codeAny (model prog w) A (.forLoop target (.ref It) body [] cx.env) (fun r s' => match r with | .ok f => PostS cx K g₀ s₀ Q f s' | .error e => cameBackBy (model prog w) A cx.env E e s') s := by
  refine codeAny_forLoop_any (I := ForI cx K g₀ s₀ g₁ wr St items fun l ρ => forL bind F l ρ Q) ?_ items.length
    ⟨0, val, ρ, g₁, rfl, Nat.zero_le _, I.addK hO (W.live 0 s hst), .refl _, hst, hw⟩
  intro m s h
  obtain ⟨i, val, ρ, g, rfl, hi, I, hle, hst, hw⟩ := h
  have lv := W.live i s hst
  by_cases hlt : i < items.length
  · refine W.item A i s items[i] g _ _ at_.a (List.getElem?_eq_getElem hlt) hst hle I.frz (I.off lv h0).g fun v s_a hgo => hgo _ _ fun s' g' e r st' => ?_
    have J := I.stepE lv h0 hK at_.lives hG e
    rw [drop_at hlt] at hw
    refine turn hF hb hbind h2 at_ hK h0 (W.live (i + 1) s' st') J.1 J.2 r hw (fun s₃ v' ρ' g₃ J l wk rr ho => ?_) (fun _ p => p) fun _ _ p => p
    exact ⟨items.length - (i + 1), Nat.sub_lt_sub_left hlt (Nat.lt_succ_self i), i + 1, v', ρ', g₃, rfl, hlt, J, (hle.trans e.le).trans l, W.frame (i + 1) s' s₃ st' wk (fun b o q => J.frz b o (((hle.trans e.le).trans l) b o q)) (fun j x _ q => rr.gens j x q), ho⟩
  · obtain rfl := Nat.le_antisymm hi (Nat.not_lt.mp hlt)
    rw [List.drop_length] at hw
    exact W.done A s _ _ at_.a hst (fun b o e => I.frz b o (hle b o e)) fun s' hk hr => wpAny_execs_nil (post_next hw (I.dropK lv h0 hK at_.lives hk (I.rest.stepG hr hG)))
end
end Mine

-- part 24
namespace Mine
section
variable {prog : Program} {w : World} {B : Heap} {C : Addr} {mg mb : Str → Option Value} {n : Nat} {Sp : Nat → List V → V → Prop}
variable {cx : Cx} {K g₀ g : PH} {s₀ s : Shared} {val : Nat → Value} {ρ : List Slot} {A : Around} {E : Value → Shared → Prop} {sc : Scope}

theorem Inv.fresh {wr : List Addr} (I : Inv cx K g₀ s₀ val ρ g s) (h : ∀ b ∈ wr, s.heap.get? b = none) : Off cx K g val ρ wr ∧ (∀ b ∈ wr, K b = none) ∧ (∀ b ∈ wr, g₀ b = none) :=
  ⟨⟨fun b hb => nn fun o q => nos (h b hb) (I.frz b o q), fun b hb hp => (I.priv b hp).2.2.elim fun o ho => nos (h b hb) ho, fun b hb i l hi q hv => (I.name q).elim fun x hx => I.own hx q fun a vs k O => nos (h b hb) (Value.ref.inj (hv.symm.trans O.val) ▸ O.obj)⟩,
    fun b hb => nn fun o q => nos (h b hb) (I.keep b o q), fun b hb => nn fun o q => nos (h b hb) (I.frz b o (I.le₀ b o q))⟩
theorem Inv.grow {s' : Shared} (I : Inv cx K g₀ s₀ val ρ g s) (hk : ∀ b o, s.heap.get? b = some o → s'.heap.get? b = some o) (hr : Rest s s') : Inv cx K g₀ s₀ val ρ g s' :=
  I.ext ⟨fun b o _ e => hk b o e, fun m hm => hm.keeps hk, .refl g, fun b o e => hk b o (I.frz b o e), fun _ _ e => .inl e, hr⟩

theorem bind1_ok {x : Nat} {id : Str} {px : Pos} (h : isStore sc cx.vars x id = true) : BindOk prog w B C n sc cx A (.Name id px) (bind1 x) := by
  intro K g₀ s₀ val ρ g s E v d k Q at_ I r hb hq
  exact wpAny_assign_Name (store_ok (sl := .fro d) at_ I h r fun s' J => hq _ _ _ hb J)
theorem bindP_ok {x y : Nat} {i₁ i₂ : Str} {p₁ p₂ tp : Pos} {kk : Nat} (h1 : isStore sc cx.vars x i₁ = true) (h2 : isStore sc cx.vars y i₂ = true) : BindOk prog w B C n sc cx A (.Tuple [.Name i₁ p₁, .Name i₂ p₂] kk tp) (bindP x y) := by
  intro K g₀ s₀ val ρ g s E v d k Q at_ I r hb hq
  obtain ⟨a, b, rfl, hb⟩ := bindP_inv hb
  exact pair_ok at_ I h1 h2 r fun s' val' J => hq _ _ _ hb J

theorem for_any {it : CE} {b : List CS} {bind : V → List Slot → (List Slot → Prop) → Prop} {F : List Slot → (Out → Prop) → Prop} {target iter : Expr} {body : List Stmt} {pos : Pos} {Q : Out → Prop} (hI : SndI prog w B C n Sp it) (hb : SndSs prog w B C n Sp b) (hF : ∀ ρ k, F ρ k → wpSs Sp b ρ k) (hbind : BindOk prog w B C n sc cx A target bind)
    (h0 : noSet iter = true) (hz : isZipC it = true → isTup target = true) (h2 : chkE glo sc cx.vars true it iter = true) (h3 : chkSs glo sc cx.vars b body = true) (at_ : At B C n sc cx K A) (I : Inv cx K g₀ s₀ val ρ g s) (hw : wpE Sp it ρ fun vi ρ₁ => ∃ items, iterV vi = some items ∧ forL bind F items ρ₁ Q) :
    wpAny (model prog w) A (exec (.For target iter body [] pos) cx.env) (PostS cx K g₀ s₀ Q) E s := by
  refine wpAny_For (wpAny_mono (hI _ _ _ _ _ _ _ _ _ _ E (fun items ρ₁ => forL bind F items ρ₁ Q) _ target h2 hz at_ I hw) (fun xv sx hx => wpAny_mono hx (fun itv s₂ hp => ?_) fun _ _ e => e) fun _ _ e => e) (noSet_folded h0)
  obtain ⟨items, ρ₁, g₁, s₁, It, wr, St, rfl, hq, hlen, I₁, l₁, hk, hr, W, hst, hwr⟩ := hp
  have f := I₁.fresh hwr
  exact for_ok hF hb hbind h3 at_ (I₁.grow hk hr) f.1 f.2.1 f.2.2 (fun _ h => h.elim) W hst hq
theorem snd_for1 {x : Nat} {it : CE} {b : List CS} (hI : SndI prog w B C n Sp it) (hb : SndSs prog w B C n Sp b) : SndS prog w B C n Sp (.for1 x it b) := by
  intro sc cx K g₀ s₀ val ρ g s A E Q st hc at_ I hw
  refine sFor_el hc fun t i b o pos h => nil0_el (l := o) (a1 h) (eName_el (e := t) (a2 h) fun id px h => ?_)
  have h2 := a2 (a2 h)
  exact for_any hI hb (fun _ _ h => h) (bind1_ok (a1 h2)) (a1 h) (fun z => Bool.noConfusion (z.symm.trans (not_t (a1 (a2 h))))) (a1 (a2 h2)) (a2 (a2 h2)) at_ I hw
theorem snd_for2 {x y : Nat} {it : CE} {b : List CS} (hI : SndI prog w B C n Sp it) (hb : SndSs prog w B C n Sp b) : SndS prog w B C n Sp (.for2 x y it b) := by
  intro sc cx K g₀ s₀ val ρ g s A E Q st hc at_ I hw
  refine sFor_el hc fun t i b o pos h => nil0_el (l := o) (a1 h) (eTwo_el (e := t) (a2 h) fun i₁ p₁ i₂ p₂ k tp h => ?_)
  have h2 := a2 (a2 h)
  exact for_any hI hb (fun _ _ h => h) (bindP_ok (a1 h2) (a1 (a2 h2))) (a1 h) (fun _ => rfl) (a1 (a2 (a2 h2))) (a2 (a2 (a2 h2))) at_ I hw

theorem upd_lst {l : Addr} {vs ws : List Value} {n : Nat} {f : Array Value → Array Value} (hl : s.heap.get? l = some (lstObj vs n)) (hf : f vs.toArray = ws.toArray) : ∃ n', (s.heap.update l (Obj.mapSeq f)).get? l = some (lstObj ws n') := by
  obtain ⟨n', hd'⟩ := Obj.data_mapSeq (o := lstObj vs n) rfl f
  refine ⟨n', ?_⟩
  rw [Heap.get?_update_self _ hl (Obj.isFreed_of_seq hd')]
  unfold lstObj Obj.mapSeq at *
  simp only [hf] at *
  simp at hd' ⊢
  try exact hd'
theorem set_list {l : Addr} {vs : List Value} {n : Nat} {k : Int} {t : Tok} {v : Value} {Q : Unit → Shared → Prop} (hl : s.heap.get? l = some (lstObj vs n)) (h0 : 0 ≤ k) (hfit : k < 2 ^ 63) (hn : k < vs.length)
    (hQ : ∀ h' n', h'.get? l = some (lstObj (vs.set k.toNat v) n') → Heap.SameBut l s.heap h' → Q () { s with heap := h' }) : wpAny (model prog w) A (setItem (.ref l) (.int k t) v) Q E s := by
  have hT : s.TypeIs (.ref l) "list" := ⟨_, hl, rfl⟩
  unfold setItem
  try with_reducible refine wpAny_holding ?_
  first | refine wpAny_bind (wpAny_pure ?_) | skip
  refine wpAny_bind (wpAny_sequenceKey hT (by decide) ?_)
  refine wpAny_bind (wpAny_callSpecial?_slot (name := Str.ofString "__setitem__") hT slot_list_setitem (wpAny_call_entry slot_list_setitem hT entry_list_setitem ?_ (args_list_setitem _ _ _)))
  show wpAny _ _ (Builtin.List.listSubscript? (.int k t) >>= _) _ _ s
  refine wpAny_bind (wpAny_listSubscript_int (fitsIndex_of h0 hfit) ?_)
  clear hfit
  obtain ⟨j, rfl⟩ := Int.eq_ofNat_of_zero_le h0
  have hj : j < vs.length := by omega
  show wpAny _ _ ((seqItemAt l j >>= fun r => pure (r.map (j, ·))) >>= _) _ _ s
  refine wpAny_bind (wpAny_bind (wpAny_seqItemAt hl rfl (wpAny_pure ?_)))
  rw [show vs.toArray[j]? = some vs[j] by simp [hj]]
  show wpAny _ _ (setSeqItemAt l j v >>= _) _ _ s
  obtain ⟨n', hfin⟩ := upd_lst (f := (·.setIfInBounds j v)) (ws := vs.set j v) hl (by simp)
  refine wpAny_bind (wpAny_setSeqItemAt hl rfl ?_)
  first
    | exact wpAny_bind (wpAny_pure (wpAny_pure ⟨.none, rfl, wpAny_pure (hQ _ n' hfin (Heap.SameBut.update ..))⟩))
    | exact wpAny_pure ⟨.none, rfl, wpAny_pure (hQ _ n' hfin (Heap.SameBut.update ..))⟩
theorem iadd_lists {l b : Addr} {vs ws : List Value} {n1 n2 : Nat} {Q : Value → Shared → Prop} (hl : s.heap.get? l = some (lstObj vs n1)) (hb : s.heap.get? b = some (lstObj ws n2)) (hsz : vs.length + ws.length ≤ 1048576)
    (hQ : ∀ h' n', h'.get? l = some (lstObj (vs ++ ws) n') → Heap.SameBut l s.heap h' → Q (.ref l) { s with heap := h' }) : wpAny (model prog w) A (inplaceOp .Add (.ref l) (.ref b)) Q E s := by
  have ha : s.TypeIs (.ref l) "list" := ⟨_, hl, rfl⟩
  have hb' : s.TypeIs (.ref b) "list" := ⟨_, hb, rfl⟩
  unfold inplaceOp
  refine wpAny_holding ?_
  have hsq : isSeqSlot (some (.builtin "list.__iadd__")) = true := by decide +kernel
  have hlk : typeLookup (.type "list") (dunderI "add") = pure (some (.builtin "list.__iadd__")) := PySem.F.slot_list_iadd.lookup
  have hfi : fillsInplaceSlot (.type "list") "add" (Operator.Add == .Add) = pure false := by
    unfold fillsInplaceSlot
    show (typeLookup (.type "list") (dunderI "add") >>= fun fi => pure (fi.isSome && !isSeqSlot fi)) = pure false
    rw [hlk]
    simp only [pure_bind, hsq]
    rfl
  have hsi : seqSlot? (.type "list") (dunderI "add") = pure (some (.builtin "list.__iadd__")) := PySem.seqSlot_of hlk hsq
  refine wpAny_bind (wpAny_typeOf ha (wpAny_bind (wpAny_of_eq hfi ?_)))
  show wpAny _ A (if false = true then _ else _) Q E s
  rw [if_neg Bool.false_ne_true]
  refine wpAny_bind (wpAny_binaryOp1_none (nm := "add") ha hb' noFill_list_add ?_)
  refine wpAny_bind (wpAny_of_eq hsi ?_)
  have hlong : Builtin.List.listTooLong (vs.toArray.size + ws.toArray.size) = false := by
    unfold Builtin.List.listTooLong
    have := size_ok hsz
    simpa using this
  obtain ⟨n', hn'⟩ := upd_lst (f := (· ++ ws.toArray)) (ws := vs ++ ws) hl (by simp)
  exact wpAny_bind (wpAny_rule (call_meets PySem.F.slot_list_iadd ha PySem.F.entry_list_iadd (PySem.F.args_list_iadd_2 _ _) (AutoSeq1.list___iadd___list_list_0 l vs.toArray n1 b ws.toArray n2 (by rw [hlong, Bool.and_false]; exact Bool.false_ne_true) (by simpa using size_ok (by omega)) (by simpa using Nat.le_succ_of_le (size_ok hsz))) ⟨hl, hb, hQ _ n' hn' (Heap.SameBut.update ..)⟩))
theorem sub_no {v o j : Expr} {p : Pos} {line : Nat} {env : Env} (h : v.ctorIdx = 2) : swapsWith v (some (.Subscript o j p)) line env = pure false :=
  Expr.BinOp.elim (motive_1 := fun v => swapsWith v (some (.Subscript o j p)) line env = pure false) v h fun _ _ _ _ => rfl
theorem snd_setItem {x : Nat} {i c : CE} (hi : SndE prog w B C n Sp i) (h : SndE prog w B C n Sp c) : SndS prog w B C n Sp (.setItem x i c) := by
  intro sc cx K g₀ s₀ val ρ g s A E Q st hc at_ I hw
  refine sAssign_el hc fun ts v pos hc => one_el hc fun t hc => eSub_el hc fun o j p' hc => eName_el (e := o) hc fun id p hc => ?_
  have h1 := a1 (a2 hc)
  have h2 := a2 (a2 hc)
  refine wpAny_Assign_Subscript (h.then (a2 h2) at_ I hw fun d ρ₁ g₁ va s₁ hq I₁ l₁ r₁ => ?_) (sub_no (eq_t (a1 hc)))
  refine (some_of_ne hq.1).elim fun d' hd' => name_var at_ I₁ h1 hd' (hi.then (a1 h2) at_ I₁ hq.2 fun d₂ ρ₂ g₂ vi s₂ hq₂ I₂ l₂ r₂ => ?_)
  obtain ⟨l, q, k, rfl, k0, k1, hlen, hq₂⟩ := own_case hq₂
  refine I₂.own (isVar_at h1) q fun a vs k' O => r₂.elim fun t e => ?_
  rw [O.val, e]
  exact set_list O.obj k0 (Int.lt_trans k1 (small63 hlen)) (by rw [O.reps.length]; exact k1) fun h' n' hl' hs' => post_next hq₂ (I₂.setOwn2 (tk := s₂.toks) (isVar_at h1) q O.val (fun b o hb e => hs'.extBut b o hb e) hl' (O.reps.set k.toNat (r₁.mono l₂)))
theorem snd_ext {x : Nat} {c : CE} (h : SndE prog w B C n Sp c) : SndS prog w B C n Sp (.ext x c) := by
  intro sc cx K g₀ s₀ val ρ g s A E Q st hc at_ I hw
  refine sAug_el hc fun t op v pos hc => eName_el hc fun id px hc => ?_
  obtain rfl := eq_t (a1 hc)
  have h1 := a1 (a2 hc)
  have h2 := a2 (a2 hc)
  obtain ⟨⟨l₀, hl₀⟩, hw⟩ := hw
  refine wpAny_AugAssign_Name (load_var at_ I h1 (by rw [hl₀]; rfl) (h.then (a2 h2) at_ I hw fun d ρ₁ g₁ va s₁ hq I₁ l₁ r₁ => ?_))
  obtain ⟨l', rfl, hq⟩ := hq
  obtain ⟨l, q, hlen, hq⟩ := own_case hq
  refine I₁.own (isVar_at h1) q fun a vs k O => r₁.listE I₁.frz fun b ws k' _ hb rb => ?_
  rw [O.val]
  refine iadd_lists O.obj hb (by rw [O.reps.length, rb.length]; exact hlen) fun h' n' hl' hs' => ?_
  have J := I₁.setOwn2 (tk := s₁.toks) (isVar_at h1) q O.val (fun b o hb e => hs'.extBut b o hb e) hl' (O.reps.append rb)
  refine store_ok (s := { s₁ with heap := h' }) (sl := .own (l ++ l')) at_ J (a1 h2) ⟨a, vs ++ ws, rfl, ⟨n', hl'⟩, O.reps.append rb, O.g, O.K, O.P, fun j l'' hj hne e => hne (J.inj j x l'' _ hj (getD_at (I₁.lt (isVar_at h1))) (e.trans O.val.symm))⟩ fun s' J' => ?_
  rw [List.set_set] at J'
  exact post_next hq J'

structure MyB (prog : Program) (w : World) (B : Heap) (C : Addr) (A : Around) (target : Expr) (I : Addr) (wr : List Addr) (G : Nat → Prop) (g : PH) (items : List V) (St : Nat → Shared → Prop) : Prop where
  live : ∀ i s, St i s → ∀ b ∈ wr, ∃ o, s.heap.get? b = some o
  frame : ∀ i (s s' : Shared), St i s → (∀ b ∈ wr, ∀ o, s.heap.get? b = some o → s'.heap.get? b = some o) → PH.Sub g s'.heap → (∀ (j : Nat) (x : GenState), G j → s.gens[j]? = some x → s'.gens[j]? = some x) → St i s'
  item : ∀ i (s : Shared) d g' (Q : Option Value → Shared → Prop) (E : Value → Shared → Prop), PH.Sub (ofHeap B) s.heap → items[i]? = some d → St i s → PH.le g g' → PH.Sub g' s.heap → (∀ b ∈ wr, g' b = none) →
    (∀ v s₁, (∀ (Q' : Unit → Shared → Prop) (E' : Value → Shared → Prop), (∀ s' g'', StepE wr G s g' s' g'' → Rep C g'' v d → St (i + 1) s' → Q' () s') → wpAny (model prog w) A (letOwnedTupleGo target (.ref I) v) Q' E' s₁) → Q (some v) s₁) →
    wpAny (model prog w) A (pyNext (.ref I)) Q E s
  done : ∀ (s : Shared) (Q : Option Value → Shared → Prop) (E : Value → Shared → Prop), PH.Sub (ofHeap B) s.heap → St items.length s → PH.Sub g s.heap →
    (∀ s', (∀ b o, b ∉ wr → s.heap.get? b = some o → s'.heap.get? b = some o) → RestG G s s' → Q none s') → wpAny (model prog w) A (pyNext (.ref I)) Q E s
structure MyFst (prog : Program) (w : World) (B : Heap) (C : Addr) (n : Nat) (target : Expr) (I : Addr) (wr₀ : List Addr) (G : Nat → Prop) (g : PH) (items : List V) (s : Shared) : Prop where
  self : ∀ (A : Around) (Q : Value → Shared → Prop) (E : Value → Shared → Prop), Q (.ref I) s → wpAny (model prog w) A (pyIter (.ref I)) Q E s
  live : ∀ b ∈ wr₀, ∃ o, s.heap.get? b = some o
  nil : items = [] → ∀ (A : Around) (Q : Option Value → Shared → Prop) (E : Value → Shared → Prop), AOk n A → (∀ s', (∀ b o, b ∉ wr₀ → s.heap.get? b = some o → s'.heap.get? b = some o) → RestG G s s' → Q none s') → wpAny (model prog w) A (pyNext (.ref I)) Q E s
  cons : ∀ d ds, items = d :: ds → ∀ (A : Around) (Q : Option Value → Shared → Prop) (E : Value → Shared → Prop), AOk n A →
    (∀ v s₁ wr St, MyB prog w B C A target I wr G g ds St → (∀ b ∈ wr₀, b ∈ wr) → (∀ b ∈ wr, b ∈ wr₀ ∨ s.heap.get? b = none) →
      (∀ (Q' : Unit → Shared → Prop) (E' : Value → Shared → Prop), (∀ s' g'', StepE wr₀ G s g s' g'' → (∀ b ∈ wr, g'' b = none) → Rep C g'' v d → St 0 s' → Q' () s') → wpAny (model prog w) A (letOwnedTupleGo target (.ref I) v) Q' E' s₁) → Q (some v) s₁) →
    wpAny (model prog w) A (pyNext (.ref I)) Q E s

inductive ForJ (prog : Program) (w : World) (B : Heap) (A : Around) (cx : Cx) (K g₀ : PH) (s₀ s : Shared) (g₁ : PH) (target : Expr) (It : Addr) (G : Nat → Prop) (items : List V) (F : List V → List Slot → Prop) : Nat → Shared → Prop
  | fst : ForJ prog w B A cx K g₀ s₀ s g₁ target It G items F (items.length + 1) s
  | nxt (ds : List V) (wr : List Addr) (St : Nat → Shared → Prop) (W : MyB prog w B cx.C A target It wr G g₁ ds St) (hK : ∀ b ∈ wr, K b = none) (h0 : ∀ b ∈ wr, g₀ b = none) (hl : ds.length < items.length) (i : Nat) (val : Nat → Value) (ρ : List Slot) (g : PH) (s' : Shared) (hi : i ≤ ds.length)
      (I : Inv cx (withK K wr s'.heap) g₀ s₀ val ρ g s') (hle : PH.le g₁ g) (st : St i s') (hw : F (ds.drop i) ρ) : ForJ prog w B A cx K g₀ s₀ s g₁ target It G items F (ds.length - i) s'
theorem for_ok₁ {target : Expr} {body : List Stmt} {b : List CS} {bind : V → List Slot → (List Slot → Prop) → Prop} {Q : Out → Prop} {It : Addr} {wr₀ : List Addr} {G : Nat → Prop} {g₁ : PH} {items : List V} {F : List Slot → (Out → Prop) → Prop} (hF : ∀ ρ k, F ρ k → wpSs Sp b ρ k) (hb : SndSs prog w B C n Sp b) (hbind : BindOk prog w B C n sc cx A target bind)
    (h2 : chkSs glo sc cx.vars b body = true) (at_ : At B C n sc cx K A) (I : Inv cx K g₀ s₀ val ρ g₁ s) (hO : Off cx K g₁ val ρ wr₀) (hK : ∀ b ∈ wr₀, K b = none) (h0 : ∀ b ∈ wr₀, g₀ b = none) (hG : ∀ i, G i → s₀.gens[i]? = none)
    (W₀ : MyFst prog w B cx.C n target It wr₀ G g₁ items s) (hw : forL bind F items ρ Q) :
    codeAny (model prog w) A (.forLoop target (.ref It) body [] cx.env) (fun r s' => match r with | .ok f => PostS cx K g₀ s₀ Q f s' | .error e => cameBackBy (model prog w) A cx.env E e s') s := by
  refine codeAny_forLoop_any (I := ForJ prog w B A cx K g₀ s₀ s g₁ target It G items fun l ρ => forL bind F l ρ Q) ?_ (items.length + 1) .fst
  intro m s₁ hs
  cases hs with
  | fst =>
    cases items with
    | nil => exact W₀.nil rfl A _ _ at_.a fun s' hk hr => wpAny_execs_nil (post_next hw ((I.addK hO W₀.live).dropK W₀.live h0 hK at_.lives hk (I.rest.stepG hr hG)))
    | cons d ds =>
      refine W₀.cons d ds rfl A _ _ at_.a fun v s_a wr St W w1 w2 hgo => hgo _ _ fun s' g' e gfr r st' => ?_
      have J := (I.addK hO W₀.live).stepE W₀.live h0 hK at_.lives hG e
      have hK' : ∀ b ∈ wr, K b = none := fun b hb => (w2 b hb).elim (hK b) fun z => nn fun o q => nos z (I.keep b o q)
      have h0' : ∀ b ∈ wr, g₀ b = none := fun b hb => (w2 b hb).elim (h0 b) fun z => nn fun o q => nos z (I.frz b o (I.le₀ b o q))
      have O' : Off cx K g' val ρ wr := ⟨gfr, fun b hb hp => (w2 b hb).elim (fun z => hO.P b z hp) fun z => (I.priv b hp).2.2.elim fun o ho => nos z ho,
        fun b hb i l hi q hv => (w2 b hb).elim (fun z => hO.own b z i l hi q hv) fun z => (I.name q).elim fun x hx => I.own hx q fun a vs k O => nos z (Value.ref.inj (hv.symm.trans O.val) ▸ O.obj)⟩
      refine turn hF hb hbind h2 at_ hK' h0' (W.live 0 s' st') J.1 O' r hw (fun s₃ v' ρ' g₃ J l wk rr ho => ?_) (fun _ p => p) fun _ _ p => p
      exact ⟨_, Nat.lt_succ_of_lt (Nat.lt_succ_self ds.length), .nxt ds wr St W hK' h0' (Nat.lt_succ_self _) 0 v' ρ' g₃ s₃ (Nat.zero_le _) J (e.le.trans l) (W.frame 0 s' s₃ st' wk (fun b o q => J.frz b o ((e.le.trans l) b o q)) (fun j x _ q => rr.gens j x q)) ho⟩
  | nxt ds wr St W hK h0 hdl i val ρ g s₁ hi I hle hst hw =>
    have lv := W.live i s₁ hst
    have hB : PH.Sub (ofHeap B) s₁.heap := I.sub (at_.addK (X := wr) (h := s₁.heap) hK)
    by_cases hlt : i < ds.length
    · refine W.item i s₁ ds[i] g _ _ hB (List.getElem?_eq_getElem hlt) hst hle I.frz (I.off lv h0).g fun v s_a hgo => hgo _ _ fun s' g' e r st' => ?_
      have J := I.stepE lv h0 hK at_.lives hG e
      rw [drop_at hlt] at hw
      refine turn hF hb hbind h2 at_ hK h0 (W.live (i + 1) s' st') J.1 J.2 r hw (fun s₃ v' ρ' g₃ J l wk rr ho => ?_) (fun _ p => p) fun _ _ p => p
      exact ⟨_, Nat.sub_lt_sub_left hlt (Nat.lt_succ_self i), .nxt ds wr St W hK h0 hdl (i + 1) v' ρ' g₃ s₃ hlt J ((hle.trans e.le).trans l) (W.frame (i + 1) s' s₃ st' wk (fun b o q => J.frz b o (((hle.trans e.le).trans l) b o q)) (fun j x _ q => rr.gens j x q)) ho⟩
    · obtain rfl := Nat.le_antisymm hi (Nat.not_lt.mp hlt)
      rw [List.drop_length] at hw
      exact W.done s₁ _ _ hB hst (fun b o e => I.frz b o (hle b o e)) fun s' hk hr => wpAny_execs_nil (post_next hw (I.dropK lv h0 hK at_.lives hk (I.rest.stepG hr hG)))

noncomputable def EscOk (prog : Program) (w : World) (B : Heap) (C : Addr) (n : Nat) (a : Addr) : Prop :=
  ∀ (A : Around) (s : Shared) (g : PH) (E : Value → Shared → Prop) (Q : Value → Shared → Prop) (z : Str) (t : Tok) (target : Expr), AOk n A → PH.Sub (ofHeap B) s.heap → PH.Sub g s.heap → z.length ≤ 1048576 → isTup target = true →
    (∀ It wr G s', (∀ b o, s.heap.get? b = some o → s'.heap.get? b = some o) → Rest s s' → MyFst prog w B C n target It wr G g (escV z) s' → (∀ b ∈ wr, s.heap.get? b = none) → (∀ i, G i → s.gens[i]? = none) → Q (.ref It) s') →
    wpAny (model prog w) A (call (.ref a) [.str z t]) Q E s
theorem snd_forEsc {x y : Nat} {c : CE} {b : List CS} {a : Addr} (S : Snd prog w B C mg mb n Sp) (hm : mg "_iter_escaped_chars" = some (.ref a)) (hcl : Callee prog w B a) (hesc : EscOk prog w B C n a) (hE : SndE prog w B C n Sp c) (hb : SndSs prog w B C n Sp b) : SndS prog w B C n Sp (.forEsc x y c b) := by
  intro sc cx K g₀ s₀ val ρ g s A E Q st hc at_ I hw
  have hC := at_.cls; subst hC
  refine sFor_el hc fun t i body o pos h => nil0_el (l := o) (a1 h) (eTwo_el (e := t) (a2 h) fun i₁ p₁ i₂ p₂ kk tp h => eCallN_el (e := i) h fun f fp es cp h => one_el (l := es) h fun v h => ?_)
  obtain rfl := eq_t (a1 h)
  have h2 := a2 (a2 (a2 h))
  have h3 := a2 (a2 (a2 h2))
  refine wpAny_For ?_ (fun _ => rfl)
  rw [arm_eval_Call_Name']
  refine wpAny_bind (glob_fn S.base at_ (I.sub at_) (a1 (a2 (a2 h))) hm ?_)
  rw [backTo1 (a1 (a2 h))]
  refine hcl A s E _ cp [] _ (evalArgs_plain (spliced_cons (hE.then (a1 h3) at_ I hw fun d ρ₁ g₁ va s₁ hq I₁ l₁ r₁ => spliced_nil ⟨I₁.sub at_, ?_⟩)))
  obtain ⟨z, rfl, hlen, hq⟩ := hq
  refine r₁.strE fun t => hesc A s₁ g₁ E _ z t (.Tuple [.Name i₁ p₁, .Name i₂ p₂] kk tp) at_.a (I₁.sub at_) I₁.frz hlen rfl fun It wr G s₂ hk hr W hwr hG => W.self A _ _ ?_
  have f := I₁.fresh hwr
  exact for_ok₁ (fun _ _ h => h) hb (bindP_ok (a1 (a2 h2)) (a1 (a2 (a2 h2)))) (a2 h3) at_ (I₁.grow hk hr) f.1 f.2.1 f.2.2 (fun i h => nn fun x q => nos (hG i h) (I₁.rest.gens i x q)) W hq

structure SndAll (prog : Program) (w : World) (B : Heap) (C : Addr) (mg mb : Str → Option Value) (n : Nat) (Sp : Nat → List V → V → Prop) : Prop where
  S : Snd prog w B C mg mb n Sp
  srt : ∀ a, SndE prog w B C n Sp a → SndE prog w B C n Sp (.sorted a)
  esc : ∃ a, mg "_iter_escaped_chars" = some (.ref a) ∧ Callee prog w B a ∧ EscOk prog w B C n a
mutual
theorem sndS (H : SndAll prog w B C mg mb n Sp) : ∀ c : CS, SndS prog w B C n Sp c
  | .assign x e => snd_assign H.S H.srt
  | .ownList x es => snd_ownList (sndLs H.S H.srt es)
  | .ownCat x y e => snd_ownCat (sndA H.S H.srt e).1
  | .chain xs e => snd_chain (sndA H.S H.srt e).1
  | .unpack x y e => snd_unpack (sndA H.S H.srt e).1
  | .append x e => snd_append (sndA H.S H.srt e).1
  | .setItem x i e => snd_setItem (sndA H.S H.srt i).1 (sndA H.S H.srt e).1
  | .ext x e => snd_ext (sndA H.S H.srt e).1
  | .aug x op e => snd_aug (sndA H.S H.srt e).1
  | .ite t a b => snd_iteS (sndT H.S H.srt t) (sndSs H a) (sndSs H b)
  | .whil t b => snd_whil (sndT H.S H.srt t) (sndSs H b)
  | .for1 x it b => snd_for1 (sndA H.S H.srt it).2 (sndSs H b)
  | .for2 x y it b => snd_for2 (sndA H.S H.srt it).2 (sndSs H b)
  | .forEsc x y e b => let ⟨_, h1, h2, h3⟩ := H.esc; snd_forEsc H.S h1 h2 h3 (sndA H.S H.srt e).1 (sndSs H b)
  | .brk => snd_brk
  | .ret e => snd_ret (sndA H.S H.srt e).1
theorem sndSs (H : SndAll prog w B C mg mb n Sp) : ∀ l : List CS, SndSs prog w B C n Sp l
  | [] => snd_nilS
  | c :: r => snd_consS (sndS H c) (sndSs H r)
end
end
end Mine

-- part 25
namespace Mine
section
variable {prog : Program} {w : World} {B : Heap} {C : Addr} {mg mb : Str → Option Value} {n : Nat} {Sp : Nat → List V → V → Prop}

theorem upd_out {m : Str → Option Value} {x y : Str} {v : Option Value} (ne : x ≠ y) : (fun z => if z = y then v else m z) x = m x := if_neg ne
theorem bindL_out {k : Str → Option NameKind} {x : Str} : ∀ (l : List (Str × Value)) (m : Str → Option Value), x ∉ l.map (·.1) → bindL k l m x = m x
  | [], _, _ => rfl
  | (y, v) :: r, m, h => (bindL_out r _ fun q => h (.tail _ q)).trans (by
    have ne : x ≠ y := fun e => h (e ▸ .head _)
    by_cases hk : k y = some .local
    · exact (congrFun (if_pos hk) x).trans (upd_out ne)
    · exact congrFun (if_neg hk) x)
theorem bindC_out {k : Str → Option NameKind} {x : Str} : ∀ (l : List (Str × Value)) (m : Str → Option Value), x ∉ l.map (·.1) → bindC k l m x = m x
  | [], _, _ => rfl
  | (y, v) :: r, m, h => (bindC_out r _ fun q => h (.tail _ q)).trans (by
    have ne : x ≠ y := fun e => h (e ▸ .head _)
    by_cases hk : k y = some .local
    · exact congrFun (if_pos hk) x
    · exact (congrFun (if_neg hk) x).trans (upd_out ne))
theorem bindL_get {k : Str → Option NameKind} {x : Str} {v : Value} (hk : k x = some .local) : ∀ (l : List (Str × Value)) (m : Str → Option Value), (l.map (·.1)).Nodup → (x, v) ∈ l → bindL k l m x = some v
  | (y, u) :: r, m, hn, h => (List.mem_cons.mp h).elim (fun e => by
      obtain ⟨rfl, rfl⟩ := Prod.mk.inj e
      exact (bindL_out r _ (List.nodup_cons.mp hn).1).trans ((congrFun (if_pos hk) _).trans (if_pos rfl))) (bindL_get hk r _ (List.nodup_cons.mp hn).2)
theorem bindC_get {k : Str → Option NameKind} {x : Str} {v : Value} (hk : k x ≠ some .local) : ∀ (l : List (Str × Value)) (m : Str → Option Value), (l.map (·.1)).Nodup → (x, v) ∈ l → bindC k l m x = some v
  | (y, u) :: r, m, hn, h => (List.mem_cons.mp h).elim (fun e => by
      obtain ⟨rfl, rfl⟩ := Prod.mk.inj e
      exact (bindC_out r _ (List.nodup_cons.mp hn).1).trans ((congrFun (if_neg hk) _).trans (if_pos rfl))) (bindC_get hk r _ (List.nodup_cons.mp hn).2)

theorem cellsFrom_lookup : ∀ (names : List (Str × NameKind)) (n : Nat) (x : Str) (c : Addr), (names.map (·.1)).Nodup → (x, c) ∈ cellsFrom n names [] → (cellsFrom n names []).lookup x = some c
  | [], _, _, _, _, h => nomatch h
  | (name, kind) :: r, n, x, c, hn, h => by
    have hn := List.nodup_cons.mp hn
    unfold cellsFrom at h ⊢
    by_cases hk : (kind == NameKind.cell) = true
    · rw [if_pos hk, cellsFrom_app] at h ⊢
      rw [List.lookup_append]
      rcases List.mem_append.mp h with h | h
      · rw [cellsFrom_lookup r (n + 1) x c hn.2 h]; rfl
      · obtain ⟨rfl, rfl⟩ := Prod.mk.inj (List.mem_singleton.mp h)
        have q : (cellsFrom (c + 1) r []).lookup x = none := nn fun c' q => hn.1 (List.mem_map.mpr ⟨_, cellsFrom_mem _ _ _ _ (mem_of_lookup q), rfl⟩)
        rw [q, List.lookup_cons_self]; rfl
    · rw [if_neg hk] at h ⊢
      exact cellsFrom_lookup r n x c hn.2 h

structure FnAt (B : Heap) (a : Addr) (fd : FuncData) : Prop where
  at_ : ∃ o, B.get? a = some o ∧ o.data = .func fd
  code : B.CodeRec fd.code fd.qualname
  glob : fd.globals = mainGlobals
  blt : fd.builtins = builtinsNs
  clo : fd.closure = []
structure FnSh0 (fd : FuncData) (body : List Stmt) (ps rest : List Str) : Prop where
  isBody : fd.body = .stmts body
  uniq : (fd.scope.names.map (·.1)).Nodup
  kind : fd.scope.kind = .function
  gen : fd.scope.isGenerator = false
  cor : fd.scope.isCoroutine = false
  nd : (ps ++ rest).Nodup
  free : ∀ x ∈ fd.scope.names, x.2 ≠ .free
  names : ∀ x ∈ ps, fd.scope.names.lookup x = some .local ∨ fd.scope.names.lookup x = some .cell
  bind : ∀ vals : List Value, vals.length = ps.length → bindArgs fd ⟨vals, []⟩ = pure (ps.zip vals)
structure FnSh (fd : FuncData) (body : List Stmt) (ps rest : List Str) (co : List CS) : Prop where
  sh : FnSh0 fd body ps rest
  chk : chkSs glo fd.scope (ps ++ rest) co body = true

theorem callee_fn {a : Addr} {fd : FuncData} (h : FnAt B a fd) : Callee prog w B a := fun A s E Q pos first args hw =>
  h.at_.elim fun o h => callWith_function (o := o) (fd := fd) (wpAny_mono hw (fun x s₁ p => ⟨⟨p.1 _ _ h.1, h.2⟩, p.2⟩) fun _ _ e => e)

noncomputable abbrev slots0 (vs : List V) (rest : List Str) : List Slot := vs.map .fro ++ List.replicate rest.length Slot.undef
theorem slots0_undef {rest : List Str} {i : Nat} : (List.replicate rest.length Slot.undef).getD i .undef = .undef := by
  rw [List.getD_eq_getElem?_getD, List.getElem?_replicate]
  split <;> rfl
theorem slots0_ok {cx : Cx} {K g : PH} {h : Heap} {rest : List Str} : ∀ {ps : List Str} {vs : List V} {cvs : List Value}, vs.length = ps.length → Reps cx.C g cvs vs → (∀ x v, (x, v) ∈ ps.zip cvs → Loads cx.env h x v) → ∀ i y, (ps ++ rest)[i]? = some y → SlotOk cx K g h y (cvs.getD i .none) ((slots0 vs rest).getD i .undef)
  | [], [], _, _, _, _, i, _, _ => (slots0_undef (rest := rest) (i := i)).symm ▸ trivial
  | p :: ps, d :: vs, _, hl, ⟨v, cvs, e, r, rs⟩, ld, i, y, hy => by
    subst e
    cases i with
    | zero => cases Option.some.inj hy; exact ⟨ld _ _ (.head _), r⟩
    | succ i => exact slots0_ok (Nat.succ.inj hl) rs (fun x v q => ld x v (.tail _ q)) i y hy
theorem slots0_own {vs : List V} {rest : List Str} {i : Nat} {l : List V} (h : (slots0 vs rest).getD i .undef = .own l) : False :=
  (List.mem_append.mp (own_mem h)).elim (fun q => (List.mem_map.mp q).elim fun _ q => nomatch q.2) fun q => nomatch List.eq_of_mem_replicate q
theorem zip_names {ps : List Str} {cvs : List Value} (h : cvs.length = ps.length) : (ps.zip cvs).map (·.1) = ps := List.map_fst_zip (Nat.le_of_eq h.symm)

theorem enter_of {a : Addr} {fd : FuncData} {body : List Stmt} {ps rest : List Str} {vs : List V} {A : Around} {s : Shared} {g K : PH} {E : Value → Shared → Prop} {Q : Value → Shared → Prop} {cvs : List Value} (D : BaseF B mg mb) (F : FnAt B a fd) (X : FnSh0 fd body ps rest) (hlen : vs.length = ps.length)
    (hA : AOk (n + 1) A) (hB : PH.Sub (ofHeap B) s.heap) (hBK : PH.le (ofHeap B) K) (hKs : PH.Sub K s.heap) (hf : PH.Sub g s.heap) (hr : Reps C g cvs vs)
    (hgo : ∀ (cx : Cx) (s₁ : Shared), cx.vars = ps ++ rest → cx.C = C → cx.env.frame = some cx.env.locals → cx.env.scope = fd.scope → (∀ b ∈ cx.P, s.heap.get? b = none) → (∀ b o, s.heap.get? b = some o → s₁.heap.get? b = some o) → Rest s s₁ → At B C n fd.scope cx K (A.deeper cx.env) →
      Inv cx K g s (fun i => cvs.getD i .none) (vs.map .fro ++ List.replicate rest.length Slot.undef) g s₁ →
      wpAny (model prog w) (A.deeper cx.env) (execs body cx.env) (fun f s' => Q (match f with | .ret v => v | _ => .none) s') (fun e s' => wpAny (model prog w) (A.deeper cx.env) (leaving cx.env e) (fun _ s'' => E e s'') (fun e' s'' => E e' s'') s') s₁) :
    wpAny (model prog w) A (call (.ref a) cvs) Q E s := by
  obtain ⟨o, ho, hd⟩ := F.at_
  have hl : cvs.length = ps.length := hr.length.trans hlen
  refine wpAny_call (codeAny_call_cells (Nat.lt_of_le_of_lt (Nat.le_add_right A.depth (n + 1)) hA.depth) (hB _ _ ho) hd (D.nolimit.keeps hB) (F.code.keeps hB) X.isBody (X.bind cvs hl) F.clo (fun x hx => ?_) (fun s₁ x => ?_) X.cor X.gen X.kind)
  · exact (X.names _ (List.of_mem_zip hx).1).imp id fun h => ⟨h, (cellsFrom_has fd.scope.names (s.heap.objs.size + 1) x.1 (mem_of_lookup h)).elim fun c hc => hc ▸ rfl⟩
  · have nu : ∀ b, s.heap.objs.size ≤ b → s.heap.get? b = none := fun b hb => nn fun o' e => absurd (Heap.lt_size e) (Nat.not_lt.mpr hb)
    revert nu x
    generalize s.heap.objs.size = L'
    intro x nu
    have hkeep : ∀ b o, s.heap.get? b = some o → s₁.heap.get? b = some o := x.toInCall.keep
    have Pn : ∀ b ∈ L' :: (callEnvC fd L' a).cells.map (·.2), s.heap.get? b = none := fun b hb => nu b ((List.mem_cons.mp hb).elim (fun h => Nat.le_of_eq h.symm) fun h => (List.mem_map.mp h).elim fun p h => h.2 ▸ Nat.le_of_lt (x.above p.1 p.2 h.1))
    have cellM : ∀ c, c ∈ (callEnvC fd L' a).cells.map (·.2) → ∃ v, s₁.heap.IsCell c v := fun c hc => (List.mem_map.mp hc).elim fun p h => h.2 ▸ ⟨_, x.cell p.1 p.2 (cellsFrom_lookup _ _ _ _ X.uniq h.1)⟩
    have inP : ∀ {y c}, (callEnvC fd L' a).cells.lookup y = some c → c ∈ L' :: (callEnvC fd L' a).cells.map (·.2) := fun h => List.mem_cons_of_mem _ (List.mem_map.mpr ⟨_, mem_of_lookup h, rfl⟩)
    have noFree : ∀ {y}, fd.scope.names.lookup y = some .free → False := fun h => X.free _ (mem_of_lookup h) rfl
    refine hgo ⟨C, callEnvC fd L' a, ps ++ rest, L' :: (callEnvC fd L' a).cells.map (·.2)⟩ s₁ rfl rfl rfl rfl Pn hkeep (x.done.elim fun h' q => q.elim fun tk q => q.1 ▸ .of)
      ⟨⟨X.kind, F.glob, F.blt, fun y k hy => .inl hy⟩, rfl, ⟨hA.handled, (Nat.lt_of_le_of_lt (Nat.le_of_eq ((Nat.add_assoc ..).trans (congrArg (A.depth + ·) (Nat.add_comm 1 n)))) hA.depth), (Nat.lt_of_le_of_lt (Nat.add_le_add_right (Nat.le_trans (Nat.le_of_eq ((Nat.add_assoc ..).trans (congrArg (A.units + ·) (Nat.add_comm 3 (100 * n))))) (Nat.add_le_add_left (Nat.add_le_add_left (by decide : 3 ≤ 100) (100 * n)) A.units)) 200) hA.units)⟩, hBK, X.nd, fun y hy => (cellsFrom_has fd.scope.names (L' + 1) y (mem_of_lookup hy)).elim fun c hc => ⟨c, hc, inP hc, Nat.ne_of_gt (x.above y c (mem_of_lookup hc))⟩, fun y hy => (noFree hy).elim, fun y z c hy hz => name_of_addr x.apart (mem_of_lookup hy) (mem_of_lookup hz), fun y c hy => .inl (inP hy)⟩
      ⟨fun b o e => hkeep b o (hf b o e), fun b o e => hkeep b o (hKs b o e), .refl g, fun _ _ e => .inl e, (x.done.elim fun h' q => q.elim fun tk q => q.1 ▸ .of), slots0_ok hlen hr fun y v hm => ?_, fun i j l l' hi _ _ => (slots0_own hi).elim, fun b hb => ⟨nn fun o q => nos (Pn b hb) (hf b o q), nn fun o q => nos (Pn b hb) (hKs b o q), (List.mem_cons.mp hb).elim (fun h => x.toInCall.ns.elim fun o q => q.elim fun _ q => q.elim fun _ q => ⟨o, h ▸ q.1⟩) fun h => (cellM b h).elim fun v q => q.elim fun o q => ⟨o, q.1⟩⟩,
        ⟨_, x.toInCall.ns⟩, List.mem_cons_self .., (show (slots0 vs rest).length = (ps ++ rest).length by rw [List.length_append, List.length_map, List.length_replicate, List.length_append, hlen]), fun c hc hne => (List.mem_cons.mp hc).elim (fun h => absurd h hne) (cellM c)⟩
    have nd : ((ps.zip cvs).map (·.1)).Nodup := (zip_names hl).symm ▸ (List.nodup_append.mp X.nd).1
    exact ⟨fun e => ⟨_, x.toInCall.ns, bindL_get e _ _ nd hm⟩, fun e => e.elim (fun e => (cellsFrom_has fd.scope.names (L' + 1) y (mem_of_lookup (show fd.scope.names.lookup y = _ from e))).elim fun c hc => ⟨c, hc, Nat.ne_of_gt (x.above _ c (mem_of_lookup hc)), bindC_get (fun z => nomatch e.symm.trans z) _ (fun _ => none) nd hm ▸ x.cell y c hc⟩) fun e => (noFree e).elim⟩

theorem contract_of {a : Addr} {fd : FuncData} {body : List Stmt} {ps rest : List Str} {co : List CS} {vs : List V} {r : V} (H : SndAll prog w B C mg mb n Sp) (F : FnAt B a fd) (X : FnSh fd body ps rest co) (hlen : vs.length = ps.length)
    (hw : wpSs Sp co (vs.map .fro ++ List.replicate rest.length Slot.undef) (fun o => o = .ret r)) : Contract prog w B C (n + 1) a vs r := by
  intro A s g L E Q cvs hA hB hH hr hQ
  refine enter_of H.S.base F X.sh hlen hA hB hB (fun _ _ e => e) hH.frz hr fun cx s₁ hv hC hf hs hP hk hrest at_ I => ?_
  subst hC
  refine wpAny_mono (sndSs H co fd.scope cx _ _ _ _ _ _ _ _ _ _ _ (hv ▸ X.chk) at_ I hw) (fun f s' p => ?_) fun _ _ e => e
  obtain ⟨o', val', g', rfl, ok⟩ := p
  cases f with
  | ret v => exact ok.1.elim fun ρ' J => hQ _ s' g' ⟨fun b o _ e => J.keep b o e, fun m hm => hm.keeps fun b o e => J.keep b o e, J.le₀, J.frz, fun b o e => (J.new b o e).imp id fun z => ⟨fun q => hH.ns.elim fun mL h => h.elim fun o' h => h.elim fun _ h => h.elim fun _ h => nos z (q ▸ h.1), z⟩, J.rest⟩ ok.2
  | _ => exact False.elim ok
end
end Mine

-- part 26
namespace Mine
@[elab_as_elim] theorem vals1 {P : List Value → Prop} {vals : List Value} (h : vals.length = 1) (f : ∀ a, P [a]) : P vals := (List.length_eq_one_iff.mp h).elim fun a e => e ▸ f a
@[elab_as_elim] theorem vals2 {P : List Value → Prop} {vals : List Value} (h : vals.length = 2) (f : ∀ a b, P [a, b]) : P vals := by
  cases vals with
  | nil => cases h
  | cons a l => exact vals1 (vals := l) (Nat.succ.inj h) (f a)
noncomputable abbrev fdOf (x : Str) (pm cd doc : Value) : FuncData := docDef x (topDf x).params (topDf x).body (topDf x).scope pm cd doc
noncomputable abbrev mdOf (x : Str) (pm cd doc : Value) : FuncData := methDef x ("Whitespace" ++ "." ++ x) (meDf x).params (meDf x).body (meDf x).scope pm cd doc
noncomputable def shapeOk (d : Df) (ps rest : List Str) : Bool :=
  decide ((d.scope.names.map (·.1)).Nodup) && (d.scope.kind == .function && (d.scope.isGenerator == false && (d.scope.isCoroutine == false && (decide ((ps ++ rest).Nodup) && (d.scope.names.all (fun x => x.2 != .free) &&
    ps.all (fun x => d.scope.names.lookup x == some .local || d.scope.names.lookup x == some .cell))))))
theorem fnSh0_of {d : Df} {fd : FuncData} {ps rest : List Str} (e1 : fd.body = .stmts d.body) (e2 : fd.scope = d.scope) (hs : shapeOk d ps rest = true) (hb : ∀ vals : List Value, vals.length = ps.length → bindArgs fd ⟨vals, []⟩ = pure (ps.zip vals)) : FnSh0 fd d.body ps rest :=
  have h3 := a2 (a2 hs)
  have h5 := a2 (a2 h3)
  ⟨e1, e2 ▸ of_decide_eq_true (a1 hs), e2 ▸ eq_t (a1 (a2 hs)), e2 ▸ eq_t (a1 h3), e2 ▸ eq_t (a1 (a2 h3)), of_decide_eq_true (a1 h5), fun x hx => bne_iff_ne.mp (all_t (a1 (a2 h5)) (e2 ▸ hx)), fun x hx => e2 ▸ (or_t (all_t (a2 (a2 h5)) hx)).imp eq_t eq_t, hb⟩
theorem sh_strip_quoted_realnames (pm cd doc : Value) : FnSh (fdOf "_strip_quoted_realnames" pm cd doc) (topDf "_strip_quoted_realnames").body ["addr"] ["start", "open_pos", "result", "pos", "ch"] co_strip_quoted_realnames := ⟨fnSh0_of rfl rfl (by decide +kernel) fun vals h => vals1 h fun _ => rfl, ok_strip_quoted_realnames⟩
theorem sh_check_parenthesis (pm cd doc : Value) : FnSh (fdOf "_check_parenthesis" pm cd doc) (topDf "_check_parenthesis").body ["addr"] ["opens", "pos", "ch"] co_check_parenthesis := ⟨fnSh0_of rfl rfl (by decide +kernel) fun vals h => vals1 h fun _ => rfl, ok_check_parenthesis⟩
theorem sh_le (pm cd doc : Value) : FnSh (fdOf "le" pm cd doc) (topDf "le").body ["a", "b"] [] co_le := ⟨fnSh0_of rfl rfl (by decide +kernel) fun vals h => vals2 h fun _ _ => rfl, ok_le⟩
theorem sh_ge (pm cd doc : Value) : FnSh (fdOf "ge" pm cd doc) (topDf "ge").body ["a", "b"] [] co_ge := ⟨fnSh0_of rfl rfl (by decide +kernel) fun vals h => vals2 h fun _ _ => rfl, ok_ge⟩
theorem sh_gt (pm cd doc : Value) : FnSh (fdOf "gt" pm cd doc) (topDf "gt").body ["a", "b"] [] co_gt := ⟨fnSh0_of rfl rfl (by decide +kernel) fun vals h => vals2 h fun _ _ => rfl, ok_gt⟩
theorem sh_add (pm cd doc : Value) : FnSh (fdOf "add" pm cd doc) (topDf "add").body ["a", "b"] [] co_add := ⟨fnSh0_of rfl rfl (by decide +kernel) fun vals h => vals2 h fun _ _ => rfl, ok_add⟩
theorem sh_countOf (pm cd doc : Value) : FnSh (fdOf "countOf" pm cd doc) (topDf "countOf").body ["a", "b"] ["count", "i"] co_countOf := ⟨fnSh0_of rfl rfl (by decide +kernel) fun vals h => vals2 h fun _ _ => rfl, ok_countOf⟩
theorem sh_getitem (pm cd doc : Value) : FnSh (fdOf "getitem" pm cd doc) (topDf "getitem").body ["a", "b"] [] co_getitem := ⟨fnSh0_of rfl rfl (by decide +kernel) fun vals h => vals2 h fun _ _ => rfl, ok_getitem⟩
theorem sh_longest_run_of_spaces (pm cd doc : Value) : FnSh (mdOf "longest_run_of_spaces" pm cd doc) (meDf "longest_run_of_spaces").body ["self"] ["count", "trailing"] co_longest_run_of_spaces := ⟨fnSh0_of rfl rfl (by decide +kernel) fun vals h => vals1 h fun _ => rfl, ok_longest_run_of_spaces⟩
theorem sh_indent_level (pm cd doc : Value) : FnSh (mdOf "indent_level" pm cd doc) (meDf "indent_level").body ["self", "tabsize"] ["count", "trailing", "il", "i"] co_indent_level := ⟨fnSh0_of rfl rfl (by decide +kernel) fun vals h => vals2 h fun _ _ => rfl, ok_indent_level⟩
theorem sh_less (pm cd doc : Value) : FnSh (mdOf "less" pm cd doc) (meDf "less").body ["self", "other"] ["n", "ts"] co_less := ⟨fnSh0_of rfl rfl (by decide +kernel) fun vals h => vals2 h fun _ _ => rfl, ok_less⟩
theorem sh_law_page (pm cd doc : Value) : FnSh (fdOf "_law_page" pm cd doc) (topDf "_law_page").body ["tells"] ["page", "x"] co_law_page := ⟨fnSh0_of rfl rfl (by decide +kernel) fun vals h => vals1 h fun _ => rfl, ok_law_page⟩
theorem sh_law_ends (pm cd doc : Value) : FnSh (fdOf "_law_ends" pm cd doc) (topDf "_law_ends").body ["page"] ["ends", "i", "e"] co_law_ends := ⟨fnSh0_of rfl rfl (by decide +kernel) fun vals h => vals1 h fun _ => rfl, ok_law_ends⟩
theorem sh_law_heads (pm cd doc : Value) : FnSh (fdOf "_law_heads" pm cd doc) (topDf "_law_heads").body ["page"] ["heads", "i", "k"] co_law_heads := ⟨fnSh0_of rfl rfl (by decide +kernel) fun vals h => vals1 h fun _ => rfl, ok_law_heads⟩
theorem sh_law_table (pm cd doc : Value) : FnSh (fdOf "_law_table" pm cd doc) (topDf "_law_table").body ["page", "sizes"] ["ends"] co_law_table := ⟨fnSh0_of rfl rfl (by decide +kernel) fun vals h => vals2 h fun _ _ => rfl, ok_law_table⟩
theorem sh_law_moved (pm cd doc : Value) : FnSh (fdOf "_law_moved" pm cd doc) (topDf "_law_moved").body ["page", "way"] ["ends", "made", "j", "e", "free"] co_law_moved := ⟨fnSh0_of rfl rfl (by decide +kernel) fun vals h => vals2 h fun _ _ => rfl, ok_law_moved⟩
theorem sh_law_had (pm cd doc : Value) : FnSh (fdOf "_law_had" pm cd doc) (topDf "_law_had").body ["page", "way"] ["found", "k", "made"] co_law_had := ⟨fnSh0_of rfl rfl (by decide +kernel) fun vals h => vals2 h fun _ _ => rfl, ok_law_had⟩
theorem sh_law_lines (pm cd doc : Value) : FnSh (fdOf "_law_lines" pm cd doc) (topDf "_law_lines").body ["page", "tells"] ["units", "heads", "leads", "lines", "i", "lead", "runs"] co_law_lines := ⟨fnSh0_of rfl rfl (by decide +kernel) fun vals h => vals2 h fun _ _ => rfl, ok_law_lines⟩
theorem sh_law_nanny (pm cd doc : Value) : FnSh (fdOf "_law_nanny" pm cd doc) (topDf "_law_nanny").body ["lines"] ["leads", "heads", "i", "k", "said"] co_law_nanny := ⟨fnSh0_of rfl rfl (by decide +kernel) fun vals h => vals1 h fun _ => rfl, ok_law_nanny⟩
theorem sh_law_mail (pm cd doc : Value) : FnSh (fdOf "_law_mail" pm cd doc) (topDf "_law_mail").body ["page", "tells"] ["opening", "closing", "pieces", "places", "standing", "i", "ends", "b", "said"] co_law_mail := ⟨fnSh0_of rfl rfl (by decide +kernel) fun vals h => vals2 h fun _ _ => rfl, ok_law_mail⟩
theorem sh_law_figures (pm cd doc : Value) : FnSh (fdOf "_law_figures" pm cd doc) (topDf "_law_figures").body ["x"] ["octets", "left"] co_law_figures := ⟨fnSh0_of rfl rfl (by decide +kernel) fun vals h => vals1 h fun _ => rfl, ok_law_figures⟩
end Mine

-- part 27
namespace Mine
noncomputable def ltN (a b : Nat → Int) : Nat → Nat → Bool
  | 0, _ => false
  | k + 1, i => if a i = b i then ltN a b k (i + 1) else decide (a i < b i)
open AutoSeq1 (wpAny_loadPart') in
open MeetsSeq MeetsSeq3 in
theorem lt_loop (l b : Addr) (items items2 : Array Value) (n n2 : Nat) (hsz : items.size = items2.size) (x y : Nat → Int)
    (he : ∀ j (h1 : j < items.size) (h2 : j < items2.size), ∃ t u, items[j] = .int (x j) t ∧ items2[j] = .int (y j) u) (k : Nat) :
    ∀ i : Nat, items.size - i = k → Meets (Builtin.«list.__eq__.loop» ⟨[.ref l, .ref b, rawInt i, rawInt 0], []⟩)
      (fun _ R s => s.heap.get? l = some { cls := .type "list", dict := none, data := .seq items n, slots := #[] } ∧ s.heap.get? b = some { cls := .type "list", dict := none, data := .seq items2 n2, slots := #[] } ∧
        R (.ok (.ret (.bool (ltN x y k i)))) s) := by
  induction k with
  | zero =>
    intro i hk prog w A R s h
    obtain ⟨hp, g, d, tk, os⟩ := s; obtain ⟨hl, hb, h⟩ := h
    wp_walk using wpAny_loadPart' hl, wpAny_loadPart' hb
    have hi1 : items[((i : Nat) : Int).toNat]? = none := by simp; omega
    have hi2 : items2[((i : Nat) : Int).toNat]? = none := by simp; omega
    rw [hi1, hi2]
    wp_walk using wpAny_loadPart' hl, wpAny_loadPart' hb
    show R (.ok (.ret (.bool (decide (items.size < items2.size))))) _
    rw [hsz]
    simpa [ltN] using h
  | succ k ih =>
    intro i hk prog w A R s h
    obtain ⟨hp, g, d, tk, os⟩ := s; obtain ⟨hl, hb, h⟩ := h
    wp_walk using wpAny_loadPart' hl, wpAny_loadPart' hb
    have hlt : i < items.size := by omega
    have hlt2 : i < items2.size := by omega
    have hi1 : items[((i : Nat) : Int).toNat]? = some items[i] := by simp [hlt]
    have hi2 : items2[((i : Nat) : Int).toNat]? = some items2[i] := by simp [hlt2]
    have hc : ((i : Int) + 1) = ((i + 1 : Nat) : Int) := by push_cast; rfl
    obtain ⟨t, u, e1, e2⟩ := he i hlt hlt2
    unfold ltN at h
    rw [hi1, hi2, e1, e2]
    refine wpAny_bind (wpAny_eqBool_int ?_)
    by_cases hxy : x i = y i
    · rw [if_pos hxy] at h
      rw [show (x i == y i) = true by simpa using hxy]
      wp_walk
      rw [hc]
      exact ⟨plainId_quiet plain_eq_loop _, codeAny_builtin entry_eq_loop (by
        rw [Around.under_plainId plain_eq_loop _]
        exact ih (i + 1) (by omega) prog w A R _ ⟨hl, hb, h⟩)⟩
    · rw [if_neg hxy] at h
      rw [show (x i == y i) = false by simpa using hxy]
      wp_walk using wpAny_loadPart' hl, wpAny_loadPart' hb
      rw [hi1, hi2, e1, e2]
      refine wpAny_bind ?_
      show wpAny _ _ (compareOp .Lt (.int (x i) t) (.int (y i) u)) _ _ _
      refine PyProof.Rows.lt_int ?_
      wp_walk
      exact h
open AutoSeq1 (wpAny_loadPart') in
open MeetsSeq MeetsSeq3 in
theorem list_lt (l b : Addr) (items items2 : Array Value) (n n2 : Nat) (hsz : items.size = items2.size) (x y : Nat → Int)
    (he : ∀ j (h1 : j < items.size) (h2 : j < items2.size), ∃ t u, items[j] = .int (x j) t ∧ items2[j] = .int (y j) u) :
    Meets (Builtin.«list.__lt__» ⟨[.ref l, .ref b], []⟩)
      (fun _ R s => s.heap.get? l = some { cls := .type "list", dict := none, data := .seq items n, slots := #[] } ∧ s.heap.get? b = some { cls := .type "list", dict := none, data := .seq items2 n2, slots := #[] } ∧
        R (.ok (.ret (.bool (ltN x y items.size 0)))) s) := by
  intro prog w A R s h
  obtain ⟨hp, g, d, tk, os⟩ := s; obtain ⟨hl, hb, h⟩ := h
  have f3 := AutoSeq1.sub_list_list
  wp_walk using wpAny_loadPart' hl, wpAny_loadPart' hb
  exact ⟨plainId_quiet plain_eq_loop _, codeAny_builtin entry_eq_loop (by
    rw [Around.under_plainId plain_eq_loop _]
    exact lt_loop l b items items2 n n2 hsz x y he _ 0 rfl prog w A R _ ⟨hl, hb, by simpa using h⟩)⟩
section
variable {prog : Program} {w : World} {A : Around} {E : Value → Shared → Prop} {s : Shared}
theorem ltN_ltL : ∀ (k i : Nat) (x y : List Int), x.length = i + k → y.length = i + k → ltN (fun j => x.getD j 0) (fun j => y.getD j 0) k i = ltL (x.drop i) (y.drop i)
  | 0, i, x, y, hx, hy => by
    rw [List.drop_eq_nil_of_le (by omega), List.drop_eq_nil_of_le (by omega)]; rfl
  | k + 1, i, x, y, hx, hy => by
    have h1 : i < x.length := by omega
    have h2 : i < y.length := by omega
    rw [List.drop_eq_getElem_cons h1, List.drop_eq_getElem_cons h2]
    unfold ltN ltL
    rw [ltN_ltL k (i + 1) x y (by omega) (by omega)]
    simp [h1, h2]
theorem key_lt {C : Addr} {g : PH} {a b : Value} {x y : List Int} {Q : Bool → Shared → Prop} (hu : A.units < cLine) (hf : PH.Sub g s.heap) (ra : Rep C g a (.list (intsV x))) (rb : Rep C g b (.list (intsV y))) (hxy : x.length = y.length)
    (h : Q (ltL x y) s) : wpAny (model prog w) A (keyLt' oneType' a b) Q E s := by
  obtain ⟨l, vs, n1, rfl, _, hl, rv⟩ := ra.list_inv hf
  obtain ⟨b, ws, n2, rfl, _, hb, rw_⟩ := rb.list_inv hf
  have hv := rv.length
  have hw := rw_.length
  unfold intsV at hv hw
  rw [List.length_map] at hv hw
  rw [keyLt'_oneType, oneLt'_eq]
  simp only [if_true]
  refine wpAny_bind (wpAny_cRoomFor hu ?_)
  refine wpAny_bind (wpAny_callSpecialIfBound?_slot (T := "list") (id := "list.__lt__") ⟨_, hl, rfl⟩ PySem.F.slot_list_lt ?_)
  have elt : ∀ {vs : List Value} {x : List Int}, Reps C g vs (intsV x) → ∀ j (h : j < vs.length), ∃ t, vs[j] = .int (x.getD j 0) t := by
    intro vs x r j hj
    have hjx : j < x.length := by have := r.length; unfold intsV at this; rw [List.length_map] at this; omega
    obtain ⟨v, hv, rv⟩ := r.get (k := j) (d := .int x[j]) (by unfold intsV; rw [List.getElem?_map, List.getElem?_eq_getElem hjx]; rfl)
    obtain ⟨t, rfl⟩ := rv.int_inv
    rw [List.getElem?_eq_getElem hj] at hv
    exact ⟨t, by rw [Option.some.inj hv]; simp [hjx]⟩
  refine call_meets PySem.F.slot_list_lt ⟨_, hl, rfl⟩ PySem.F.entry_list_lt (PySem.F.args_list_lt_2 _ _) (list_lt l b vs.toArray ws.toArray n1 n2 (by simp; omega) (fun j => x.getD j 0) (fun j => y.getD j 0) (fun j h1 h2 => ?_)) ⟨hl, hb, ?_⟩
  · obtain ⟨t, e1⟩ := elt rv j (by simpa using h1)
    obtain ⟨u, e2⟩ := elt rw_ j (by simpa using h2)
    exact ⟨t, u, by simpa using e1, by simpa using e2⟩
  · refine wpAny_truthy_bool ?_
    have := ltN_ltL x.length 0 x y (by omega) (by omega)
    rw [List.drop_zero, List.drop_zero] at this
    rw [List.size_toArray, hv, this]
    exact h
theorem run_ask {α : Type} {κ : SortKind} {vs : List Value} {N : Nat} {cmp : Nat → Nat → Bool} {Q : α → Shared → Prop} {r : α} (h : ∀ i j (C : Bool → Shared → Prop), i < N → j < N → C (cmp i j) s → kas_ask prog w A κ vs i j C s) : ∀ t : KasT α, runT N cmp t = some r → Q r s → t.kasWp (kas_ask prog w A κ vs) Q s
  | .ret a, e, hq => by
    unfold runT at e
    cases e; exact hq
  | .ask i j k, e, hq => by
    unfold runT at e
    split at e
    · rename_i hij
      exact h i j _ hij.1 hij.2 (run_ask h (k (cmp i j)) e hq)
    · cases e
end
end Mine

-- part 28
namespace Mine
section
variable {prog : Program} {w : World} {B : Heap} {C : Addr} {mg mb : Str → Option Value} {n : Nat} {Sp : Nat → List V → V → Prop}
variable {A : Around} {E : Value → Shared → Prop} {s : Shared} {L : Addr} {g : PH}
theorem looks_list {M : Model} {h : Heap} {a : Addr} {vs : List Value} {k : Nat} (e : h.get? a = some (lstObj vs k)) : Looks M h (typeOf (.ref a)) (.type "list") := kitAt_ty M h ⟨_, e, rfl⟩
noncomputable abbrev rowsV (ls : List (List Int)) : List V := ls.map fun x => .list (intsV x)
theorem sorted_many {l : Addr} {vs : List Value} {k : Nat} {ls rs : List (List Int)} {Q : Value → Shared → Prop} (H : Here L g s) (hu : A.units + 10 < cLine) (hl : s.heap.get? l = some (lstObj vs k)) (r : Reps C g vs (rowsV ls)) (h2 : 2 ≤ ls.length) (h64 : ls.length < 64)
    (h4 : ∀ x ∈ ls, x.length = 4) (hp : pureSort ls = some rs) (h : Back C L s g (.list (rowsV rs)) Q) : wpAny (model prog w) A (call (.builtin "sorted") [.ref l]) Q E s := by
  obtain ⟨m, hm⟩ := H.ns
  have hlen : vs.length = ls.length := by have := r.length; unfold rowsV at this; rwa [List.length_map] at this
  have at_ : ∀ i (hi : i < ls.length), ∃ v, vs[i]? = some v ∧ Rep C g v (.list (intsV ls[i])) := fun i hi => r.get (by unfold rowsV; rw [List.getElem?_map, List.getElem?_eq_getElem hi]; rfl)
  refine kas_sorted (vs := vs) (T := .type "list") (fr_all hm) (news_all s.heap L) (lst_is hl) (by omega) (by omega) ?_ (by decide) ?_
  · intro h' F N v hv
    obtain ⟨i, hi, e⟩ := List.mem_iff_getElem.mp hv
    obtain ⟨v', hv', rv⟩ := at_ i (by omega)
    rw [List.getElem?_eq_getElem hi, e] at hv'
    cases hv'
    obtain ⟨a, ws, k', rfl, hga, ha, _⟩ := rv.list_inv H.frz
    exact looks_list (N (a, _) (mem_allBut.mpr ⟨(by rintro rfl; rw [H.gL] at hga; cases hga), ha⟩)).1
  · intro D e1 h' F N hlt
    unfold pureSort at hp
    obtain ⟨p, hp1, hp2⟩ := Option.bind_eq_some_iff.mp hp
    split at hp2
    · rename_i hall
      cases hp2
      rw [hlen]
      have kk := kept_all N fun p hp => List.mem_cons_of_mem _ hp
      have frz' : PH.Sub g h' := fun b o e => kk b o (by rintro rfl; rw [H.gL] at e; cases e) (H.frz b o e)
      refine run_ask (s := { s with heap := h' }) (fun i j Cc hi hj hc => ?_) _ hp1 ?_
      · obtain ⟨v, hv, rv⟩ := at_ i hi
        obtain ⟨u, hu', ru⟩ := at_ j hj
        show wpAny _ _ (keyLt' oneType' (vs.getD i Value.none) (vs.getD j Value.none)) _ _ _
        rw [List.getD_eq_getElem?_getD, List.getD_eq_getElem?_getD, hv, hu']
        refine key_lt (x := ls[i]) (y := ls[j]) (by show A.units + 1 + 1 < cLine; omega) frz' rv ru (by rw [h4 _ (List.getElem_mem hi), h4 _ (List.getElem_mem hj)]) ?_
        have e1 : ls.getD i [] = ls[i] := by simp [hi]
        have e2 : ls.getD j [] = ls[j] := by simp [hj]
        rw [e1, e2] at hc
        exact hc
      · refine KasFin.intro (s := { s with heap := h' }) F N (UpdF.head fun q hq => Nat.ne_of_lt (hlt q hq)) fun h'' c F'' N'' => ?_
        have hD := N'' _ (List.mem_cons_self ..)
        have kk2 := kept_all N'' fun p hp => List.mem_cons_of_mem _ hp
        have ee := Ext.add (tk := s.toks) H.frz H.gL kk2 (ns_all hm F'') hD.2.1 (fresh_all hD.2.1 hlt) hD.1
        refine h _ _ _ ee (.list (n := c) (PH.put_self ..) (Reps.mono ee.le ?_))
        have hall' := List.all_eq_true.mp hall
        generalize p.toList = pl at hall'
        induction pl with
        | nil => exact .nil
        | cons i pl ih =>
          have hi : i < ls.length := by simpa using hall' i (List.mem_cons_self ..)
          obtain ⟨v, hv, rv⟩ := at_ i hi
          refine .cons ?_ (ih fun x hx => hall' x (List.mem_cons_of_mem _ hx))
          show Rep C g (vs.getD i Value.none) (.list (intsV (ls.getD i [])))
          rw [List.getD_eq_getElem?_getD, hv]
          have e1 : ls.getD i [] = ls[i] := by simp [hi]
          rw [e1]; exact rv
    · cases hp2
end
end Mine

-- part 29
namespace Mine
section
variable {prog : Program} {w : World} {A : Around} {E : Value → Shared → Prop} {s : Shared}
theorem sort_one {a : Addr} {v : Value} {n : Nat} {P : PySem.Fin → Shared → Prop} (ho : s.heap.get? a = some (seqObj "list" #[v] n))
    (h : ∀ h' c, h'.get? a = some (seqObj "list" #[v] c) → (∀ b o, b ≠ a → s.heap.get? b = some o → h'.get? b = some o) → P (.done (.ret .none)) { s with heap := h' }) :
    wpAny (model prog w) A (Builtin.«list.sort» ⟨[.ref a], []⟩) P E s := by
  have s1 := Heap.SameBut.update s.heap a (Obj.mapSeq fun _ => (#[] : Array Value))
  obtain ⟨e1, ho1⟩ : ∃ e1, (s.heap.update a (Obj.mapSeq fun _ => (#[] : Array Value))).get? a = some (seqObj "list" #[] e1) := ⟨_, get?_update_seq ho fun _ => #[]⟩
  rw [list_sort_plain]
  refine wpAny_bind (listItems_at ho rfl ?_)
  refine wpAny_bind (listUpdate_at ho rfl ?_ (by rw [sizeLine_eq]; show 1 ≤ _; decide) (Nat.zero_le _))
  refine wpAny_bind (seqEpoch_at ho1 rfl ?_)
  refine wpAny_bind (wpAny_newTuple ?_ (by rw [sizeLine_eq]; show 1 ≤ _; decide))
  refine wpAny_bind (wpAny_newList ?_ (Nat.zero_le _))
  refine wpAny_holding ?_
  show wpAny (model prog w) A _ P E { s with heap := ((s.heap.update a (Obj.mapSeq fun _ => (#[] : Array Value))).push (seqObj "tuple" #[v] 0)).push (seqObj "list" #[] 0) }
  have ho2 : (((s.heap.update a (Obj.mapSeq fun _ => (#[] : Array Value))).push (seqObj "tuple" #[v] 0)).push (seqObj "list" #[] 0)).get? a = some (seqObj "list" #[] e1) := Heap.get?_push_of_some _ (Heap.get?_push_of_some _ ho1)
  have hk : ∀ b o, b ≠ a → s.heap.get? b = some o → (((s.heap.update a (Obj.mapSeq fun _ => (#[] : Array Value))).push (seqObj "tuple" #[v] 0)).push (seqObj "list" #[] 0)).get? b = some o := fun b o hb e => Heap.get?_push_of_some _ (Heap.get?_push_of_some _ (s1.extBut b o hb e))
  generalize ((s.heap.update a (Obj.mapSeq fun _ => (#[] : Array Value))).push (seqObj "tuple" #[v] 0)).push (seqObj "list" #[] 0) = h2 at ho2 hk
  have hn2 : (#[v] : Array Value).size < 2 := by show 1 < 2; decide
  dsimp only
  rw [if_pos hn2, if_pos hn2]
  refine wpAny_bind (wpAny_pure ?_)
  refine wpAny_bind (wpAny_pure ?_)
  refine wpAny_bind (seqEpoch_at ho2 rfl ?_)
  have s2 := Heap.SameBut.update h2 a (Obj.mapSeq fun _ => (#[v] : Array Value))
  obtain ⟨c2, hc2⟩ : ∃ c2, (h2.update a (Obj.mapSeq fun _ => (#[v] : Array Value))).get? a = some (seqObj "list" #[v] c2) := ⟨_, get?_update_seq ho2 fun _ => #[v]⟩
  have harr : Array.map (fun x : Keyed => x.2) (arrOf (SortSt.mk' general' ((#[v] : Array Value).zip #[v]) #[] 7 none)) = #[v] := by
    show Array.map (fun x : Value × Value => x.2) ((#[v] : Array Value).zip #[v]) = #[v]
    simp
  dsimp only
  rw [harr]
  refine wpAny_bind (listUpdate_at ho2 rfl ?_ (Nat.zero_le _) (by rw [sizeLine_eq]; show 1 ≤ _; decide))
  simp only [bne_self_eq_false, Bool.false_eq_true, if_false]
  exact wpAny_pure (h _ c2 hc2 fun b o hb e => s2.extBut b o hb (hk b o hb e))
end
end Mine

-- part 30
namespace Mine
section
variable {prog : Program} {w : World} {B : Heap} {C : Addr} {mg mb : Str → Option Value} {n : Nat} {Sp : Nat → List V → V → Prop}
variable {A : Around} {E : Value → Shared → Prop} {s : Shared} {L : Addr} {g : PH}
theorem sorted_one {l : Addr} {v : Value} {k : Nat} {d : V} {Q : Value → Shared → Prop} (H : Here L g s) (hl : s.heap.get? l = some (lstObj [v] k)) (r : Rep C g v d) (h : Back C L s g (.list [d]) Q) : wpAny (model prog w) A (call (.builtin "sorted") [.ref l]) Q E s := by
  refine Calls.call_function_entry kind_sorted plain_sorted entry_sorted (args_sorted1 _) ?_
  unfold Builtin.«sorted»
  refine wpAny_bind (m := checkCount "sorted" 1 1 _) (wpAny_pure ?_)
  refine wpAny_bind (collect_list (vs := [v]) (lst_is hl) ?_ (by rw [sizeLine_eq]; show 1 ≤ _; decide))
  refine wpAny_bind (wpAny_newList ?_ (by rw [sizeLine_eq]; show 1 ≤ _; decide))
  have hsz : ((s.heap.push (seqObj "list" #[] 0)).update s.heap.objs.size (Obj.mapSeq (· ++ [v].toArray))).objs.size = s.heap.objs.size + 1 := by
    rw [Heap.size_update]; exact Heap.size_push ..
  have hoL : (((s.heap.push (seqObj "list" #[] 0)).update s.heap.objs.size (Obj.mapSeq (· ++ [v].toArray))).push (seqObj "list" [v].toArray 0)).get? (s.heap.objs.size + 1) = some (seqObj "list" [v].toArray 0) := by
    rw [← hsz]; exact Heap.get?_push_size _ rfl
  have keep : ∀ b o, s.heap.get? b = some o → (((s.heap.push (seqObj "list" #[] 0)).update s.heap.objs.size (Obj.mapSeq (· ++ [v].toArray))).push (seqObj "list" [v].toArray 0)).get? b = some o := fun b o q => by
    have hlt : b < s.heap.objs.size := Heap.lt_size q
    rw [Heap.get?_push_ne _ _ _ (by rw [hsz]; exact Nat.ne_of_lt (Nat.lt_succ_of_lt hlt)), Heap.get?_update_ne _ _ _ _ (Nat.ne_of_lt hlt), Heap.get?_push_ne _ _ _ (Nat.ne_of_lt hlt)]
    exact q
  show wpAny _ _ _ _ _ { s with heap := ((s.heap.push (seqObj "list" #[] 0)).update s.heap.objs.size (Obj.mapSeq (· ++ [v].toArray))).push (seqObj "list" [v].toArray 0) }
  rw [hsz]
  refine wpAny_bind (wpAny_holding (wpAny_call_entry slot_list_sort ⟨_, hoL, rfl⟩ entry_list_sort ?body (args_list_sort _)))
  case body =>
    refine sort_one (s := { s with heap := ((s.heap.push (seqObj "list" #[] 0)).update s.heap.objs.size (Obj.mapSeq (· ++ [v].toArray))).push (seqObj "list" [v].toArray 0) }) hoL fun h' c hc hk => ⟨_, rfl, wpAny_pure ⟨_, rfl, ?_⟩⟩
    have ne : ∀ b o, s.heap.get? b = some o → b ≠ s.heap.objs.size + 1 := fun b o e => Nat.ne_of_lt (Nat.lt_succ_of_lt (Heap.lt_size e))
    have kk : ∀ b o, s.heap.get? b = some o → h'.get? b = some o := fun b o e => hk b o (ne b o e) (keep b o e)
    have fr : s.heap.get? (s.heap.objs.size + 1) = none := nn fun o e => absurd rfl (ne _ o e)
    have ee := Ext.add (tk := s.toks) (L := L) H.frz H.gL (fun b o _ e => kk b o e) (fun m' hm' => hm'.keeps kk) (a := s.heap.objs.size + 1) (o := lstObj [v] c) (fun q => H.ns.elim fun m h => h.elim fun o h => h.elim fun _ h => h.elim fun _ h => nos fr (q ▸ h.1)) fr hc
    exact h _ _ _ ee (.list (PH.put_self ..) (.one (r.mono ee.le)))
variable {cx : Cx}
theorem snd_sorted (D : BaseF B mg mb) (a : CE) (ha : SndE prog w B C n Sp a) : SndE prog w B C n Sp (.sorted a) := by
  intro sc cx K g₀ s₀ val ρ g s A E Q e hc at_ I hw
  refine eCallN_el hc fun f p es pos hc => one_el hc fun x hc => ?_
  refine call_blt1 (id := "sorted") (fun Q hq => glob_name D at_ (I.sub at_) (a1 hc) (by decide) (by decide) (by decide +kernel) hq) (a1 (a2 hc)) (ha.then (a2 (a2 hc)) at_ I hw fun d ρ₁ g₁ va s₁ hq I₁ l₁ r₁ => ?_)
  obtain ⟨ls, rfl, h0, h64, h4, rs, hp, hq⟩ := hq
  refine r₁.listE I₁.frz fun x vs k _ hx rx => ?_
  by_cases h2 : 2 ≤ ls.length
  · exact sorted_many I₁.here (Nat.lt_of_le_of_lt (Nat.add_le_add (Nat.le_add_right _ _) (by decide)) at_.a.units) hx rx h2 h64 h4 hp (back_post' I₁ l₁ hq)
  · match ls, h0, h2 with
    | [y], _, _ =>
      have hp : ((runT 1 (fun i j => ltL ([y].getD i []) ([y].getD j [])) (kas_sort 1)).bind fun p => if p.toList.all (fun i => decide (i < 1)) then some (p.toList.map fun i => [y].getD i []) else none) = some rs := hp
      rw [show runT 1 (fun i j => ltL ([y].getD i []) ([y].getD j [])) (kas_sort 1) = some #[0] from rfl] at hp
      obtain rfl := Option.some.inj hp
      obtain ⟨v, vs, rfl, rv, rfl⟩ := rx
      exact sorted_one I₁.here hx rv (back_post' I₁ l₁ hq)
    | _ :: _ :: _, _, h2 => exact absurd (Nat.le_add_left 2 _) h2
end
end Mine

-- part 31
namespace Mine
section
variable {prog : Program} {w : World} {B : Heap} {C : Addr} {mg mb : Str → Option Value} {n m : Nat}
theorem AOk.mono {A : Around} (h : n ≤ m) (a : AOk m A) : AOk n A := ⟨a.handled, by have := a.depth; omega, by have := a.units; omega⟩
theorem Contract.mono {f : Addr} {vs : List V} {r : V} (h : n ≤ m) (c : Contract prog w B C n f vs r) : Contract prog w B C m f vs r :=
  fun A s g L E Q cvs a => c A s g L E Q cvs (a.mono h)
noncomputable def Fns (B : Heap) (mg : Str → Option Value) (xs : List Str) : Prop := ∀ x ∈ xs, ∃ a pm cd doc, mg x = some (.ref a) ∧ FnAt B a (fdOf x pm cd doc)
theorem fnAt_top {p : Program} {loose : List Str} {mean : ExcName → Option Value} {h : Heap} (T : Top p loose mean mg mb h) {x : Str} {d : DefRec} (hd : d ∈ recsOf p) (h1 : d.name = x) (h2 : d.params = (topDf x).params) (h3 : d.body = (topDf x).body) (h4 : d.scope = (topDf x).scope) :
    ∃ a pm cd doc, mg x = some (.ref a) ∧ FnAt h a (fdOf x pm cd doc) := by
  obtain ⟨a, o, pm, code, doc, e1, e2, e3, e4⟩ := T.fn d hd
  subst h1
  rw [h2, h3, h4] at e3
  exact ⟨a, pm, code, doc, e1, ⟨_, e2, e3⟩, e4, rfl, rfl, rfl⟩
theorem base_top {p : Program} {loose : List Str} {mean : ExcName → Option Value} {h : Heap} (T : Top p loose mean mg mb h) (hf : ∀ x ∈ bltNames, x ∉ startupNames ∧ x ∉ loose ∧ x ∉ (recsOf p).map (·.name) ∧ x ∉ (litsOf p).map (·.1) ∧ x ∉ (clssOf p loose).map (·.name)) : BaseF h mg mb :=
  ⟨T.g, T.b, T.nolimit, T.builtins, fun x hx => let ⟨h1, h2, h3, h4, h5⟩ := hf x hx; T.free x h1 h2 h3 h4 h5⟩
end
end Mine

-- part 32
namespace Mine
section
variable {prog : Program} {w : World} {A : Around} {E : Value → Shared → Prop} {s : Shared}
theorem next_fun {a : Addr} {g n : Nat} {gs : GenState} {P : Nat → Shared → Shared → Prop} {Y : Protocol} {Q : Option Value → Shared → Prop} (hh : A.handled = none) (hl : s.heap.NoLimit) (hroom : A.depth < recursionLimit) (hg : s.heap.IsGen a g) (hgs : s.gens[g]? = some gs)
    (hgo : gs.Goes (model prog w) A.in1 (fun n s₀ r s₁ => r = .ok (.ret .none) ∧ P n s₀ s₁) Y n (.send .none) (s.setGen g .running))
    (hY : ∀ v s₁ gs', gs'.bare = true → Y (n - 1) (s.setGen g .running) v s₁ (fun r' s'' => match n with
        | 0 => False
        | m + 1 => gs'.Goes (model prog w) A.in1 (fun n s₀ r s₁ => r = .ok (.ret .none) ∧ P n s₀ s₁) Y m r' s'') → Q (some v) (s₁.setGen g gs'))
    (hP : ∀ s₁, P n (s.setGen g .running) s₁ → ∀ h', (∀ b o, s₁.heap.get? b = some o → h'.get? b = some o) → Q none { s₁.setGen g .finished with heap := h' }) :
    wpAny (model prog w) A (pyNext (.ref a)) Q E s := by
  unfold pyNext
  refine wpAny_bind (wpAny_attempt (wpAny_callSpecial?_slot (name := Str.ofString "__next__") hg.typeIs slot_gen_next (wpAny_call_entry slot_gen_next hg.typeIs entry_gen_next ?_ (args_gen_next _))))
  show wpAny _ A.in1 (Builtin.Generator.genWake (.ref a) (.send .none)) _ _ s
  unfold Builtin.Generator.genWake
  refine wpAny_bind (wpAny_holding (wpAny_genNumber hg (wpAny_bind (wpAny_genState hgs ?_))))
  cases gs with
  | running => exact hgo.elim
  | finished => exact hgo.elim
  | _ =>
    refine wpAny_bind (wpAny_roomToWake hl hroom ?_)
    show wpAny _ A.in1 (.resume g (.send .none) [] _) _ _ s
    refine wpAny_resumeQ hgs hgo (fun x s₁ hx => ?_) (fun v s₁ gs' hb hv => wpAny_pure ⟨v, rfl, wpAny_pure (hY v s₁ gs' hb hv)⟩)
    obtain ⟨rfl, hp⟩ := hx
    show wpAny _ A.in1 (newExc (.type "StopIteration") [] >>= _) _ _ _
    refine wpAny_bind ?_
    simp only [newExc, newTuple]
    refine wpAny_bind (wpAny_newObj_type ?_ (by size_fits))
    refine wpAny_bind (m := firstArgMember _ _) (wpAny_of_eq (a := Value.none) rfl ?_)
    refine wpAny_newObj_type ?_ (by size_fits)
    simp only [raiseNew]
    refine wpAny_bind (wpAny_bind (wpAny_handled ?_))
    rw [show A.in1.handled = none from hh]
    refine wpAny_throw ?_
    refine wpAny_bind (wpAny_isInstance (T := "StopIteration") (b := true) ⟨_, Heap.get?_push_size _ rfl, rfl⟩ isSubtype_stop ?_)
    exact wpAny_pure (hP s₁ hp _ fun b o hb => Heap.get?_push_of_some _ (Heap.get?_push_of_some _ hb))
end
end Mine

-- part 33
namespace Mine
section
variable {prog : Program} {w : World} {A : Around} {R : GenEnd} {Y : Protocol} {n : Nat} {s₀ : Shared} {fs : List Frame} {s : Shared} {env : Env}
theorem seg_forLoop {target : Expr} {it : Value} {body orelse : List Stmt}
    (h : wpAny (model prog w) (A.over (.forLoop target it body orelse env) fs) (pyNext it) (fun r s₁ => match r with
      | none => Seg (model prog w) A R Y n s₀ (.block orelse env) ((model prog w).den (.block orelse env)) fs s₁
      | some v => wpAny (model prog w) (A.over (.forLoop target it body orelse env) fs) (letOwnedTupleGo target it v) (fun _ s₁' => wpAny (model prog w) (A.over (.forLoop target it body orelse env) fs) (assign target env v) (fun _ s₂ =>
          Seg (model prog w) A R Y n s₀ (.forLoop target it body orelse env) ((execs body env).wrap (fun f => match f with
            | .next | .cont => .pure (.again (.forLoop target it body orelse env))
            | .brk => .pure (.done .next)
            | .ret v => .pure (.done (.ret v))) (fun e => (do noteFrame e env; theTreesLotGoes e : Sem Unit).wrap (fun _ => .raise e) .raise id id) id id) fs s₂) (fun _ _ => False) s₁') (fun _ _ => False) s₁) (fun _ _ => False) s) :
    Seg (model prog w) A R Y n s₀ (.forLoop target it body orelse env) ((model prog w).den (.forLoop target it body orelse env)) fs s := by
  show Seg _ A R Y n s₀ _ ((forTurn target it body orelse env).onRaise (fun x => do noteFrame x env; theTreesLotGoes x)) fs s
  unfold forTurn
  rw [Sem.onRaise_eq_wrap]
  refine seg_bind_wrap (wpAny_standAt ?_)
  refine seg_bind_wrap (wpAny_onRaise (wpAny_mono h (fun r s₁ hr => ?_) fun _ _ e => e.elim))
  cases r with
  | none => exact seg_again rfl hr
  | some v =>
    refine seg_bind_wrap (wpAny_mono hr (fun _ s₁' h1 => ?_) fun _ _ e => e.elim)
    refine seg_bind_wrap (wpAny_mono h1 (fun _ s₂ h2 => ?_) fun _ _ e => e.elim)
    rw [Sem.bind_eq_wrap', Sem.wrap_wrap]
    rw [Sem.wrap_congr (execs body env) _ _ (K' := fun f => match f with
            | .next | .cont => .pure (.again (.forLoop target it body orelse env))
            | .brk => .pure (.done .next)
            | .ret v => .pure (.done (.ret v))) (H' := (fun e => (do noteFrame e env; theTreesLotGoes e : Sem Unit).wrap (fun _ => .raise e) .raise id id))
        (fun f => by cases f <;> rfl)
        (fun e => by first | exact Sem.bind_eq_wrap _ _ | (show (do noteFrame e env; theTreesLotGoes e : Sem Unit).bind (fun _ => .raise e) = _; rw [Sem.bind_eq_wrap]))]
    exact h2
end
end Mine

-- part 34
namespace Mine
section
variable {prog : Program} {w : World} {A : Around} {R : GenEnd} {Y : Protocol} {n : Nat} {s₀ : Shared} {fs : List Frame} {s : Shared} {env : Env} {c : Code} {K : Flow → Sem PySem.Fin} {H : Value → Sem PySem.Fin} {gd : Bool → Bool} {lv : List Value → List Value}
theorem seg_For {target iter : Expr} {body orelse : List Stmt} {pos : Pos} (hs : ∀ x, foldedSetIterable iter env x = pure x)
    (h : wpAny (model prog w) (A.over c fs) (eval iter env) (fun x s₁ => wpAny (model prog w) (A.over c fs) (pyIter x) (fun it s₂ => ∀ p, Seg (model prog w) A R Y n s₀ (.forLoop target it body orelse env) ((model prog w).den (.forLoop target it body orelse env))
      (.ret (fun r => ((match r with | .ok f => (.pure f : Sem Flow) | .error e => .raise e).onRaise fun (x : Value) => do
        if (← field x 1) == Value.none then unsupported "frame.own-activation:exception-without-traceback"
        setFlight x env.frame).wrap K H gd lv) none (gd false) (lv []) c p [] :: fs) s₂) (fun _ _ => False) s₁) (fun _ _ => False) s) :
    Seg (model prog w) A R Y n s₀ c ((exec (.For target iter body orelse pos) env).wrap K H gd lv) fs s := by
  rw [exec_For]
  refine seg_bind_wrap (wpAny_standAt ?_)
  refine seg_bind_wrap (wpAny_mono h (fun x s₁ h1 => ?_) fun _ _ e => e.elim)
  refine seg_bind_wrap (wpAny_of_eq (hs x) ?_)
  refine seg_bind_wrap (wpAny_standAt ?_)
  refine seg_bind_wrap (wpAny_holding (wpAny_mono h1 (fun it s₂ h2 => ?_) fun _ _ e => e.elim))
  exact seg_call h2
theorem seg_If {test : Expr} {body orelse : List Stmt} {pos : Pos}
    (h : wpAny (model prog w) (A.over c fs) (isTrue test env (eval test env)) (fun b s₁ => if b = true then Seg (model prog w) A R Y n s₀ c ((execs body env).wrap K H gd lv) fs s₁ else Seg (model prog w) A R Y n s₀ c ((execs orelse env).wrap K H gd lv) fs s₁) (fun _ _ => False) s) :
    Seg (model prog w) A R Y n s₀ c ((exec (.If test body orelse pos) env).wrap K H gd lv) fs s := by
  rw [arm_exec_If]
  refine seg_bind_wrap (wpAny_standAt ?_)
  refine seg_bind_wrap (wpAny_mono h (fun b s₁ h1 => ?_) fun _ _ e => e.elim)
  cases b with
  | true => exact (if_pos rfl : (if true = true then _ else _) = _) ▸ h1
  | false => exact (if_neg Bool.false_ne_true : (if false = true then _ else _) = _) ▸ h1
end
end Mine

-- part 35
namespace Mine
section
variable {prog : Program} {w : World} {A : Around} {E : Value → Shared → Prop} {s : Shared}

structure GSt (N e it : Addr) (z : Str) (t : Tok) (i : Nat) (esc : Bool) (h : Heap) : Prop where
  ns : ∃ m p tp, h.Ns N m ∧ m "escape" = some (.bool esc) ∧ m "pos" = some (.int p tp) ∧ (esc = true → p = ((i - 1 : Nat) : Int))
  en : ∃ old, IsEnum h e it i old
  si : h.IsStrIter it (strIterType z) z t i
  d1 : e ≠ it
  d2 : e ≠ N
  d3 : it ≠ N
  d4 : it < e
theorem GSt.frame {N e it : Addr} {z : Str} {t : Tok} {i : Nat} {esc : Bool} {h h' : Heap} (G : GSt N e it z t i esc h) (hk : ∀ b ∈ [N, e, it], ∀ o, h.get? b = some o → h'.get? b = some o) : GSt N e it z t i esc h' :=
  ⟨let ⟨m, p, tp, h1, h2⟩ := G.ns; ⟨m, p, tp, h1.at' fun o x => hk N (by simp) o x, h2⟩, let ⟨old, x⟩ := G.en; ⟨old, hk e (by simp) _ x⟩, let ⟨o, ho, r⟩ := G.si; ⟨o, hk it (by simp) o ho, r⟩, G.d1, G.d2, G.d3, G.d4⟩
theorem GSt.lt {N e it : Addr} {z : Str} {t : Tok} {i : Nat} {esc : Bool} {h : Heap} (G : GSt N e it z t i esc h) : ∀ b ∈ [N, e, it], ∃ o, h.get? b = some o := fun b hb => by
  simp at hb
  rcases hb with rfl | rfl | rfl
  · obtain ⟨m, _, _, ⟨o, _, _, ho, _⟩, _⟩ := G.ns; exact ⟨o, ho⟩
  · obtain ⟨_, x⟩ := G.en; exact ⟨_, x⟩
  · obtain ⟨o, ho, _⟩ := G.si; exact ⟨o, ho⟩
noncomputable def Since (wr : List Addr) (s₀ s : Shared) : Prop := ∃ h tk, s = { s₀ with heap := h, toks := tk } ∧ ∀ b o, b ∉ wr → s₀.heap.get? b = some o → h.get? b = some o
theorem Since.refl (wr : List Addr) (s : Shared) : Since wr s s := ⟨s.heap, s.toks, rfl, fun _ _ _ e => e⟩
theorem Since.step {wr : List Addr} {s₀ s : Shared} (x : Since wr s₀ s) {h' : Heap} {tk : Nat} (hk : ∀ b o, b ∉ wr → s.heap.get? b = some o → h'.get? b = some o) : Since wr s₀ { s with heap := h', toks := tk } := by
  obtain ⟨h, tk₁, rfl, hk₁⟩ := x
  exact ⟨h', tk, rfl, fun b o hb e => hk b o hb (hk₁ b o hb e)⟩
noncomputable def FreshTup (s₀ s : Shared) (fp : List Addr) (v : Value) (q : Nat × List Nat) : Prop :=
  ∃ a t₁ t₂, v = .ref a ∧ s.heap.get? a = some (tupObj [.int q.1 t₁, .str ⟨q.2.toArray⟩ t₂] 0) ∧ s₀.heap.get? a = none ∧ a ∉ fp
noncomputable def YE (its : List (Nat × List Nat)) (fp : List Addr) : Protocol := fun m s₀ v s kap =>
  (∃ q, its[its.length - 1 - m]? = some q ∧ FreshTup s₀ s fp v q) ∧ Since fp s₀ s ∧ (∀ b ∈ fp, ∃ o, s.heap.get? b = some o) ∧ ∀ s'' : Shared, (∀ b ∈ fp, ∀ o, s.heap.get? b = some o → s''.heap.get? b = some o) → kap (.send .none) s''
noncomputable abbrev RE (fp : List Addr) : GenEnd := fun n s₀ r s₁ => r = .ok (.ret .none) ∧ (n = 0 ∧ Since fp s₀ s₁)

structure EscEnv (env : Env) : Prop where
  kind : env.scope.kind = .function
  co : env.scope.isCoroutine = false
  ia : interactive env = false
  pos : env.kindOf "pos" = some .local
  esc : env.kindOf "escape" = some .local
  ch : env.kindOf "ch" = some .local

theorem draws_str (hh : A.handled = none) (it : Addr) (z : Str) (t : Tok) : Draws prog w A it [it] z.cps.size (fun i v => ∃ c u, z.cps[i]? = some c ∧ v = .str ⟨#[c]⟩ u) (fun i h => h.IsStrIter it (strIterType z) z t i) := by
  unfold strIterType
  cases z.cps.all (· < 128)
  · exact Draws.strWide hh it z t
  · exact Draws.strAscii hh it z t

theorem store_ns {env : Env} {x : Str} {v : Value} {m : Str → Option Value} {Q : Unit → Shared → Prop} (X : EscEnv env) (hx : env.kindOf x = some .local) (hn : s.heap.Ns env.locals m)
    (h : ∀ h', h'.Ns env.locals (fun y => if y = x then some v else m y) → Heap.SameBut env.locals s.heap h' → Q () { s with heap := h', toks := s.toks + 1 }) : wpAny (model prog w) A (storeName env x v) Q E s :=
  wpAny_storeName_local hx hn h (by rw [X.kind]; rfl)

theorem stop_made {it : Addr} {h₁ : Heap} {Q : PySem.Fin → Shared → Prop} (hh : A.handled = none) (hs₁ : Heap.SameBut it s.heap h₁) (hl₁ : ∃ o, h₁.get? it = some o)
    (hE : ∀ h' x, Heap.ExtBut it s.heap h' → (∃ o, h'.get? it = some o) → (∃ o, h'.get? x = some o ∧ o.cls = .type "StopIteration") → E (.ref x) { s with heap := h' }) :
    wpAny (model prog w) A (newExc (.type "StopIteration") [] >>= fun x => raiseNew x) Q E { s with heap := h₁ } := by
  refine wpAny_bind ?_
  simp only [newExc, newTuple]
  refine wpAny_bind (wpAny_newObj_type ?_ (by size_fits))
  refine wpAny_bind (m := firstArgMember _ _) (wpAny_of_eq (a := Value.none) (by first | rfl | (simp only [firstArgMember]; rfl)) ?_)
  refine wpAny_newObj_type ?_ (by size_fits)
  simp only [raiseNew]
  refine wpAny_bind (wpAny_handled ?_)
  rw [hh]
  refine wpAny_bind (wpAny_pure (wpAny_throw ?_))
  obtain ⟨o₁, ho₁⟩ := hl₁
  exact hE _ _ ((hs₁.extBut.push _).push _) ⟨o₁, Heap.get?_push_of_some _ (Heap.get?_push_of_some _ ho₁)⟩ ⟨_, Heap.get?_push_size _ rfl, rfl⟩
theorem str_over {it : Addr} {z : Str} {t : Tok} {Q : Value → Shared → Prop} (hh : A.handled = none) (hsi : s.heap.IsStrIter it (strIterType z) z t z.cps.size)
    (hE : ∀ h' x, Heap.ExtBut it s.heap h' → (∃ o, h'.get? it = some o) → (∃ o, h'.get? x = some o ∧ o.cls = .type "StopIteration") → E (.ref x) { s with heap := h' }) : wpAny (model prog w) A (Builtin.SmallTypes.nextOf (.ref it)) Q E s := by
  have hend : z.cps[z.cps.size]? = none := by simp
  obtain ⟨o, ho, hc, hd⟩ := id hsi
  unfold Builtin.SmallTypes.nextOf
  cases ha : z.cps.all (· < 128)
  · have et : strIterType z = "str_iterator" := by unfold strIterType; rw [ha]; rfl
    rw [et] at hsi
    refine wpAny_bind (wpAny_callSpecial?_slot (name := Str.ofString "__next__") hsi.typeIs F.slot_str_iterator_next (wpAny_call_entry F.slot_str_iterator_next hsi.typeIs F.entry_str_iterator_next ?_ (F.args_str_iterator_next_1 _)))
    show wpAny _ _ (field (.ref it) 0 >>= _) _ _ s
    refine wpAny_bind (wpAny_field ho hd (x := .str z t) rfl ?_)
    show wpAny _ _ (field (.ref it) 1 >>= _) _ _ s
    refine wpAny_bind (wpAny_field ho hd (x := .int z.cps.size 0) rfl ?_)
    simp only [Int.toNat_natCast, hend]
    refine wpAny_bind (wpAny_rule (wpAny_bind (wpAny_setField ho hd (by simp) (wpAny_bind (wpAny_letGo ?_)))))
    exact stop_made (s := s) hh (Heap.SameBut.update ..) ⟨_, Heap.get?_update_self _ ho (Obj.isFreed_of_fields (Obj.data_mapFields hd _))⟩ hE
  · have et : strIterType z = "str_ascii_iterator" := by unfold strIterType; rw [ha]; rfl
    rw [et] at hsi
    refine wpAny_bind (wpAny_callSpecial?_slot (name := Str.ofString "__next__") hsi.typeIs F.slot_str_ascii_iterator_next (wpAny_call_entry F.slot_str_ascii_iterator_next hsi.typeIs F.entry_str_ascii_iterator_next ?_ (F.args_str_ascii_iterator_next_1 _)))
    show wpAny _ _ (field (.ref it) 0 >>= _) _ _ s
    refine wpAny_bind (wpAny_field ho hd (x := .str z t) rfl ?_)
    show wpAny _ _ (field (.ref it) 1 >>= _) _ _ s
    refine wpAny_bind (wpAny_field ho hd (x := .int z.cps.size 0) rfl ?_)
    simp only [Int.toNat_natCast, hend]
    refine wpAny_bind (wpAny_rule (wpAny_bind (wpAny_setField ho hd (by simp) (wpAny_bind (wpAny_letGo ?_)))))
    exact stop_made (s := s) hh (Heap.SameBut.update ..) ⟨_, Heap.get?_update_self _ ho (Obj.isFreed_of_fields (Obj.data_mapFields hd _))⟩ hE
theorem esc_over {e it : Addr} {z : Str} {t : Tok} {i : Int} {old : Value} {Q : Option Value → Shared → Prop} (hh : A.handled = none) (hen : IsEnum s.heap e it i old) (hsi : s.heap.IsStrIter it (strIterType z) z t z.cps.size)
    (hQ : ∀ h', Heap.ExtBut it s.heap h' → (∃ o, h'.get? it = some o) → Q none { s with heap := h' }) : wpAny (model prog w) A (pyNext (.ref e)) Q E s := by
  have hT : s.TypeIs (.ref e) "enumerate" := ⟨_, hen, rfl⟩
  unfold pyNext
  refine wpAny_bind (wpAny_attempt (wpAny_callSpecial?_slot (name := Str.ofString "__next__") hT F.slot_enumerate_next (wpAny_call_entry F.slot_enumerate_next hT F.entry_enumerate_next ?_ (F.args_enumerate_next_1 _))))
  show wpAny _ _ (field (.ref e) 2 >>= _) _ _ _
  refine wpAny_bind (wpAny_field hen rfl (x := .ref it) rfl ?_)
  refine wpAny_bind (str_over (A := A.in1) hh hsi fun h' x he' hl' hx' => ?_)
  obtain ⟨o, ho, hc⟩ := hx'
  refine wpAny_bind (wpAny_isInstance (T := "StopIteration") (b := true) ⟨o, ho, hc⟩ isSubtype_stop ?_)
  exact wpAny_pure (hQ _ he' hl')
theorem esc_turn {env : Env} {e it : Addr} {z : Str} {t : Tok} {i : Nat} {esc : Bool} {c : Nat} {p₁ p₂ tp : Pos} {Q : Shared → Prop} (X : EscEnv env) (hh : A.handled = none) (G : GSt env.locals e it z t i esc s.heap) (hc : z.cps[i]? = some c)
    (hQ : ∀ h' tk, (∀ b o, b ∉ [env.locals, e, it] → s.heap.get? b = some o → h'.get? b = some o) → (∃ m t₁ t₂, h'.Ns env.locals m ∧ m "escape" = some (.bool esc) ∧ m "pos" = some (.int i t₁) ∧ m "ch" = some (.str ⟨#[c]⟩ t₂)) →
      (∃ old, IsEnum h' e it ((i : Int) + 1) old) → h'.IsStrIter it (strIterType z) z t (i + 1) → Q { s with heap := h', toks := tk }) :
    wpAny (model prog w) A (pyNext (.ref e)) (fun r s₁ => match r with
      | none => False
      | some v => wpAny (model prog w) A (letOwnedTupleGo (.Tuple [.Name "pos" p₁, .Name "ch" p₂] 0 tp) (.ref e) v) (fun _ s₁' => wpAny (model prog w) A (assign (.Tuple [.Name "pos" p₁, .Name "ch" p₂] 0 tp) env v) (fun _ s₂ => Q s₂) (fun _ _ => False) s₁') (fun _ _ => False) s₁) (fun _ _ => False) s := by
  obtain ⟨old, hen⟩ := G.en
  have hlt : i < z.cps.size := (Array.getElem?_eq_some_iff.mp hc).1
  refine wpAny_pyNext_enum_itemD (draws_str (prog := prog) (w := w) (A := A.in1) hh it z t) hen G.si hlt G.d1 (by simpa using G.d1) fun x h₁ tk hP ho hsi hT hsz hk => ?_
  obtain ⟨c', u, hc', rfl⟩ := hP
  rw [hc] at hc'; cases hc'
  obtain ⟨m, p, tpk, hns, hes, hps, _⟩ := G.ns
  have eN : s.heap.objs.size ≠ env.locals := Nat.ne_of_gt hns.lt
  have eE : s.heap.objs.size ≠ e := Nat.ne_of_gt (Heap.lt_size hen)
  have eI : s.heap.objs.size ≠ it := by obtain ⟨_, y, _⟩ := G.si; exact Nat.ne_of_gt (Heap.lt_size y)
  refine wpAny_letOwnedTupleGo_enum ho fun h₂ he₂ hs₂ => ?_
  have hns₂ : h₂.Ns env.locals m := (hns.at' fun o y => hs₂.extBut _ o (Ne.symm G.d2) (hk _ o (Ne.symm G.d2) (Ne.symm G.d3) y))
  have hT₂ : h₂.get? s.heap.objs.size = some { cls := .type "tuple", data := .seq #[.int i tk, .str ⟨#[c]⟩ u] } := hs₂.extBut _ _ eE hT
  have hsi₂ : h₂.IsStrIter it (strIterType z) z t (i + 1) := hsi.extBut hs₂.extBut (Ne.symm G.d1)
  refine assign_Tuple_tuple (s := { s with heap := h₂, toks := tk + 1 }) (t := s.heap.objs.size) (items := #[.int i tk, .str ⟨#[c]⟩ u]) hh ⟨_, hT₂, rfl, _, rfl⟩ rfl rfl fun h₃ hk₃ => ?_
  have kk : ∀ b o, h₂.get? b = some o → h₃.get? b = some o := fun b o y => hk₃ b o (Nat.ne_of_lt (Heap.lt_size y)) y
  show wpAny _ A (assignInOrder [fun v => assign (.Name "pos" p₁) env v, fun v => assign (.Name "ch" p₂) env v] [.int i tk, .str ⟨#[c]⟩ u]) _ _ _
  unfold assignInOrder
  refine wpAny_bind (wpAny_holding (wpAny_assign_Name (store_ns X X.pos (hns₂.keeps kk) fun h₄ hn₄ hs₄ => ?_)))
  unfold assignInOrder
  refine wpAny_bind (wpAny_holding (wpAny_assign_Name (store_ns X X.ch hn₄ fun h₅ hn₅ hs₅ => ?_)))
  unfold assignInOrder
  refine wpAny_pure (hQ h₅ _ (fun b o hb y => ?_) ⟨_, tk, u, hn₅, ?_, ?_, ?_⟩ ⟨_, hs₅.extBut _ _ G.d2 (hs₄.extBut _ _ G.d2 (kk _ _ he₂))⟩ ?_)
  · simp at hb
    exact hs₅.extBut b o hb.1 (hs₄.extBut b o hb.1 (kk b o (hs₂.extBut b o hb.2.1 (hk b o hb.2.1 hb.2.2 y))))
  · rw [if_neg (by decide), if_neg (by decide)]; exact hes
  · rw [if_neg (by decide), if_pos rfl]
  · rw [if_pos rfl]
  · obtain ⟨o, ho', r⟩ := hsi₂
    exact ⟨o, hs₅.extBut _ _ G.d3 (hs₄.extBut _ _ G.d3 (kk _ _ ho')), r⟩
end
end Mine

-- part 36
namespace Mine
section
variable {prog : Program} {w : World} {A : Around} {E : Value → Shared → Prop} {s : Shared}

theorem esc_name {env : Env} {x : Str} {v : Value} {m : Str → Option Value} {p : Pos} {Q : Value → Shared → Prop} (X : EscEnv env) (hx : env.kindOf x = some .local) (hn : s.heap.Ns env.locals m) (hv : m x = some v) (hd : (x == ("__debug__" : Str)) = false) (h : Q v s) :
    wpAny (model prog w) A (eval (.Name x p) env) Q E s := wpAny_Name (wpAny_loadName_local X.kind hx hn hv h) hd
theorem esc_tup {env : Env} {e2 : Expr} {m : Str → Option Value} {i : Int} {t₁ : Tok} {l : List Nat} {p₁ tp : Pos} {kk : Nat} {Q : Value → Shared → Prop} (X : EscEnv env) (hn : s.heap.Ns env.locals m) (hp : m "pos" = some (.int i t₁)) (h2 : noStar e2 = true)
    (he : ∀ Q : Value → Shared → Prop, (∀ u tk, Q (.str ⟨l.toArray⟩ u) { s with toks := tk }) → wpAny (model prog w) A (eval e2 env) Q E s)
    (h : ∀ u tk, Q (.ref s.heap.objs.size) { s with heap := s.heap.push (tupObj [.int i t₁, .str ⟨l.toArray⟩ u] 0), toks := tk }) : wpAny (model prog w) A (eval (.Tuple [.Name "pos" p₁, e2] kk tp) env) Q E s := by
  rw [arm_eval_Tuple]
  refine wpAny_bind (wpAny_standAt (wpAny_bind ?_))
  rw [star1 rfl, star1 h2]
  refine spliced_cons (esc_name X X.pos hn hp (by decide) ?_)
  refine spliced_cons (he _ fun u tk => spliced_nil ?_)
  exact wpAny_newTuple (s := { s with toks := tk }) (h u tk) (size_ok (by simp))
theorem esc_cat {env : Env} {m : Str → Option Value} {c : Nat} {t₂ : Tok} {p₁ p₂ p₃ : Pos} {kk : Nat} {Q : Value → Shared → Prop} (X : EscEnv env) (hn : s.heap.Ns env.locals m) (hc : m "ch" = some (.str ⟨#[c]⟩ t₂))
    (h : ∀ u tk, Q (.str ⟨[92, c].toArray⟩ u) { s with toks := tk }) : wpAny (model prog w) A (eval (.BinOp (.Constant (.str "\\") kk p₁) .Add (.Name "ch" p₂) p₃) env) Q E s := by
  refine wpAny_BinOp (wpAny_Constant_str (esc_name (s := { s with toks := s.toks + 1 }) X X.ch hn hc (by decide) ?_))
  refine add_str ?_
  exact fun _ _ => h _ _
theorem esc_test {env : Env} {m : Str → Option Value} {b : Bool} {p : Pos} {Q : Bool → Shared → Prop} (X : EscEnv env) (hn : s.heap.Ns env.locals m) (hb : m "escape" = some (.bool b)) (h : Q b s) : wpAny (model prog w) A (PySem.isTrue (.Name "escape" p) env (eval (.Name "escape" p) env)) Q E s :=
  test_sound rfl (esc_name X X.esc hn hb (by decide) ⟨b, rfl, h⟩)
theorem esc_eq {env : Env} {m : Str → Option Value} {c : Nat} {t₂ : Tok} {p₁ p₂ p₃ : Pos} {kk : Nat} {Q : Bool → Shared → Prop} (X : EscEnv env) (hn : s.heap.Ns env.locals m) (hc : m "ch" = some (.str ⟨#[c]⟩ t₂))
    (h : ∀ tk, Q (decide (c = 92)) { s with toks := tk }) : wpAny (model prog w) A (PySem.isTrue (.Compare (.Name "ch" p₁) [.Eq] [.Constant (.str "\\") kk p₂] p₃) env (eval (.Compare (.Name "ch" p₁) [.Eq] [.Constant (.str "\\") kk p₂] p₃) env)) Q E s := by
  refine test_sound rfl (wpAny_Compare1 (esc_name X X.ch hn hc (by decide) (wpAny_Constant_str (eq_str ?_))) rfl)
  refine ⟨_, rfl, ?_⟩
  have : ((⟨#[c]⟩ : Str) == Str.ofString "\\") = decide (c = 92) := by
    by_cases hc : c = 92
    · subst hc; decide
    · rw [decide_eq_false hc, beq_eq_false_iff_ne]
      intro q
      have : (#[c] : Array Nat) = #[92] := congrArg Str.cps q
      simp at this
      exact hc this
  rw [this]
  exact h _
theorem esc_set {env : Env} {m : Str → Option Value} {b : Bool} {p₁ p₂ p₃ : Pos} {kk : Nat} {Q : Flow → Shared → Prop} (X : EscEnv env) (hn : s.heap.Ns env.locals m)
    (h : ∀ h', h'.Ns env.locals (fun y => if y = "escape" then some (.bool b) else m y) → Heap.SameBut env.locals s.heap h' → Q .next { s with heap := h', toks := s.toks + 1 }) :
    wpAny (model prog w) A (exec (.Assign [.Name "escape" p₁] (.Constant (.bool b) kk p₂) p₃) env) Q E s :=
  wpAny_Assign_Name (wpAny_Constant_bool (store_ns X X.esc hn h)) rfl
end

section
variable {prog : Program} {w : World} {A : Around} {s : Shared}
noncomputable def escBody (p : Nat → Pos) : List Stmt := [.If (.Name "escape" (p 1)) [.Expr (.Yield (some (.Tuple [.Name "pos" (p 2), .BinOp (.Constant (.str "\\") 0 (p 3)) .Add (.Name "ch" (p 4)) (p 5)] 0 (p 6))) (p 7)) (p 8), .Assign [.Name "escape" (p 9)] (.Constant (.bool false) 0 (p 10)) (p 11)]
  [.If (.Compare (.Name "ch" (p 12)) [.Eq] [.Constant (.str "\\") 0 (p 13)] (p 14)) [.Assign [.Name "escape" (p 15)] (.Constant (.bool true) 0 (p 16)) (p 17)] [.Expr (.Yield (some (.Tuple [.Name "pos" (p 18), .Name "ch" (p 19)] 0 (p 20))) (p 21)) (p 22)] (p 23)] (p 24)]

theorem its_here {α : Type} {pre r : List α} {x : α} {its : List α} {m : Nat} (h : its = pre ++ x :: r) (hm : m = r.length) : its[its.length - 1 - m]? = some x := by
  subst h hm
  simp only [List.length_append, List.length_cons]
  rw [show pre.length + (r.length + 1) - 1 - r.length = pre.length by omega, List.getElem?_append_right (Nat.le_refl _), Nat.sub_self]; rfl

theorem esc_out {its : List (Nat × List Nat)} {N e it : Addr} {n : Nat} {s₀ : Shared} {l : List Nat} {q : Nat} {u t₁ : Tok} {tk : Nat} {kap : Resume → Shared → Prop} {pre r : List (Nat × List Nat)}
    (live : ∀ b ∈ [N, e, it], ∃ o, s.heap.get? b = some o) (hs : Since [N, e, it] s₀ s) (hits : its = pre ++ (q, l) :: r) (hn : n = r.length)
    (hk : ∀ s'' : Shared, (∀ b ∈ [N, e, it], ∀ o, s.heap.get? b = some o → s''.heap.get? b = some o) → kap (.send .none) s'') :
    YE its [N, e, it] n s₀ (.ref s.heap.objs.size) { s with heap := s.heap.push (tupObj [.int q t₁, .str ⟨l.toArray⟩ u] 0), toks := tk } kap := by
  have hfr : s₀.heap.get? s.heap.objs.size = none := by
    obtain ⟨h, tk₁, rfl, hk₁⟩ := hs
    cases q : s₀.heap.get? h.objs.size with
    | none => rfl
    | some o =>
      by_cases hb : h.objs.size ∈ [N, e, it]
      · exact absurd (Heap.lt_size (live _ hb).choose_spec) (Nat.lt_irrefl _)
      · exact absurd (Heap.lt_size (hk₁ _ o hb q)) (Nat.lt_irrefl _)
  refine ⟨⟨(q, l), its_here hits hn, _, t₁, u, rfl, Heap.get?_push_size _ rfl, hfr, fun hb => ?_⟩, hs.step fun b o _ x => Heap.get?_push_of_some _ x, fun b hb => let ⟨o, ho⟩ := live b hb; ⟨o, Heap.get?_push_of_some _ ho⟩, fun s'' h => hk s'' fun b hb o x => h b hb o (Heap.get?_push_of_some _ x)⟩
  exact absurd (Heap.lt_size (live _ hb).choose_spec) (Nat.lt_irrefl _)

theorem drop_arr {z : Str} {i c : Nat} (h : z.cps[i]? = some c) : z.cps.toList.drop i = c :: z.cps.toList.drop (i + 1) := by
  have h' : z.cps.toList[i]? = some c := by simpa using h
  obtain ⟨hl, e⟩ := List.getElem?_eq_some_iff.mp h'
  rw [List.drop_eq_getElem_cons hl, e]

theorem seg_escLoop {env : Env} {e it : Addr} {z : Str} {t : Tok} {its : List (Nat × List Nat)} {p : Nat → Pos} {p₁ p₂ tp : Pos} {fs : List Frame} (X : EscEnv env) (hh : (A.over (.forLoop (.Tuple [.Name "pos" p₁, .Name "ch" p₂] 0 tp) (.ref e) (escBody p) [] env) fs).handled = none)
    (hfs : splitAtGen fs = none) (hfg : fs.any Frame.guarded = false)
    (hfin : ∀ esc (s₀ s : Shared) pre, (∃ m p tp, s.heap.Ns env.locals m ∧ m "escape" = some (.bool esc) ∧ m "pos" = some (.int p tp) ∧ (esc = true → p = ((z.cps.size - 1 : Nat) : Int))) → (∀ b ∈ [env.locals, e, it], ∃ o, s.heap.get? b = some o) → Since [env.locals, e, it] s₀ s → its = pre ++ escItems [] z.cps.size esc → Seg (model prog w) A (RE [env.locals, e, it]) (YE its [env.locals, e, it]) (escItems [] z.cps.size esc).length s₀ (.block [] env) (leafOf (.ok .next)) fs s) :
    ∀ (k i : Nat) (esc : Bool) (s₀ s : Shared) (pre : List (Nat × List Nat)), z.cps.size - i = k → i ≤ z.cps.size → GSt env.locals e it z t i esc s.heap → Since [env.locals, e, it] s₀ s → its = pre ++ escItems (z.cps.toList.drop i) i esc →
      Seg (model prog w) A (RE [env.locals, e, it]) (YE its [env.locals, e, it]) (escItems (z.cps.toList.drop i) i esc).length s₀ (.forLoop (.Tuple [.Name "pos" p₁, .Name "ch" p₂] 0 tp) (.ref e) (escBody p) [] env)
        ((model prog w).den (.forLoop (.Tuple [.Name "pos" p₁, .Name "ch" p₂] 0 tp) (.ref e) (escBody p) [] env)) fs s := by
  intro k
  induction k with
  | zero =>
    intro i esc s₀ s pre hk hi G hs hits
    have hi' : i = z.cps.size := by omega
    subst hi'
    have ed : z.cps.toList.drop z.cps.size = [] := List.drop_of_length_le (by simp)
    rw [ed] at hits ⊢
    obtain ⟨old, hen⟩ := G.en
    refine seg_forLoop (esc_over hh hen G.si fun h' hk' hl' => ?_)
    show Seg _ A _ _ _ s₀ (.block [] env) (leafOf (.ok .next)) fs _
    obtain ⟨m, p, tpk, hns, hes, hps, hp⟩ := G.ns
    have hns' := hns.at' fun o x => hk' _ o (Ne.symm G.d3) x
    have he' := hk' _ _ G.d1 hen
    refine hfin esc s₀ _ pre ⟨m, p, tpk, hns', hes, hps, hp⟩ (fun b hb => ?_) (hs.step (tk := s.toks) fun b o hb x => hk' b o (fun h => hb (by simp [h])) x) hits
    simp at hb
    rcases hb with rfl | rfl | rfl
    · obtain ⟨o, _, _, ho, _⟩ := hns'; exact ⟨o, ho⟩
    · exact ⟨_, he'⟩
    · exact hl'
  | succ k ih =>
    intro i esc s₀ s pre hk hi G hs hits
    have hlt : i < z.cps.size := by omega
    obtain ⟨c, hc⟩ : ∃ c, z.cps[i]? = some c := ⟨z.cps[i], by simp [hlt]⟩
    have hd := drop_arr hc
    refine seg_forLoop (wpAny_mono (esc_turn (p₁ := p₁) (p₂ := p₂) (tp := tp) (Q := ?Q) X hh G hc ?t) ?m ?e)
    case m =>
      intro r s₁ hr
      cases r with
      | none => exact hr.elim
      | some v => exact hr
    case e => exact fun _ _ x => x
    case t =>
     intro h' tk hkeep hns hen hsi
     obtain ⟨m, t₁, t₂, hN, hesc, hpos, hch⟩ := hns
     have hs' : Since [env.locals, e, it] s₀ { s with heap := h', toks := tk } := hs.step hkeep
     have mk : ∀ (esc' : Bool) (h'' : Heap), (∃ m p tp, h''.Ns env.locals m ∧ m "escape" = some (.bool esc') ∧ m "pos" = some (.int p tp) ∧ (esc' = true → p = (((i + 1) - 1 : Nat) : Int))) → (∀ b ∈ [e, it], ∀ o, h'.get? b = some o → h''.get? b = some o) → GSt env.locals e it z t (i + 1) esc' h'' := fun esc' h'' a1 a2 =>
       ⟨a1, let ⟨old, x⟩ := hen; ⟨old, a2 e (by simp) _ x⟩, let ⟨o, ho, r⟩ := hsi; ⟨o, a2 it (by simp) o ho, r⟩, G.d1, G.d2, G.d3, G.d4⟩
     have again : ∀ (esc' : Bool) (s₀ s₂ : Shared) pre', GSt env.locals e it z t (i + 1) esc' s₂.heap → Since [env.locals, e, it] s₀ s₂ → its = pre' ++ escItems (z.cps.toList.drop (i + 1)) (i + 1) esc' → Seg (model prog w) A (RE [env.locals, e, it]) (YE its [env.locals, e, it]) (escItems (z.cps.toList.drop (i + 1)) (i + 1) esc').length s₀ (.forLoop (.Tuple [.Name "pos" p₁, .Name "ch" p₂] 0 tp) (.ref e) (escBody p) [] env) (.pure (.again (.forLoop (.Tuple [.Name "pos" p₁, .Name "ch" p₂] 0 tp) (.ref e) (escBody p) [] env))) fs s₂ :=
       fun esc' s₀ s₂ pre' g1 g2 g3 => seg_again rfl (ih (i + 1) esc' s₀ s₂ pre' (by omega) (by omega) g1 g2 g3)
     have neN : ∀ b ∈ [e, it], b ≠ env.locals := fun b hb => by
       simp at hb
       rcases hb with rfl | rfl
       · exact G.d2
       · exact G.d3
     unfold escBody
     refine seg_execs_cons (seg_If (esc_test X hN hesc ?_))
     cases esc with
     | true =>
       have ei : escItems (z.cps.toList.drop i) i true = (i, [92, c]) :: escItems (z.cps.toList.drop (i + 1)) (i + 1) false := by rw [hd]; rfl
       rw [ei] at hits ⊢
       rw [if_pos rfl]
       refine seg_execs_cons (seg_Expr_Yield hfs rfl hfg (esc_tup (l := [92, c]) X hN hpos rfl (fun Q hQ => esc_cat X hN hch hQ) fun u tk' kap hkap => ?_) X.co X.ia)
       refine esc_out (s := { s with heap := h', toks := tk }) (GSt.lt (mk true _ ⟨m, _, t₁, hN, hesc, hpos, fun _ => rfl⟩ fun _ _ _ x => x)) hs' hits rfl fun s'' hal => hkap _ s'' ?_
       have hN'' := hN.at' (fun o x => hal env.locals (by simp) o x)
       refine seg_execs_cons (seg_wrap (esc_set X hN'' fun h₃ hn₃ hs₃ => ?_))
       refine seg_execs_nil (seg_execs_nil (again false s'' _ (pre ++ [(i, [92, c])]) (mk false _ ⟨_, i, t₁, hn₃, if_pos rfl, ?_, fun h => by cases h⟩ fun b hb o x => ?_) ((Since.refl _ s'').step (tk := s''.toks + 1) fun b o hb x => hs₃.extBut b o (fun h => hb (by simp [h])) x) (by rw [hits]; simp)))
       · rw [if_neg (by decide)]; exact hpos
       · exact hs₃.extBut b o (neN b hb) (hal b (List.mem_cons_of_mem _ hb) o x)
     | false =>
       rw [if_neg (by simp)]
       refine seg_execs_cons (seg_If (esc_eq X hN hch fun tk₂ => ?_))
       by_cases h92 : c = 92
       · have ei : escItems (z.cps.toList.drop i) i false = escItems (z.cps.toList.drop (i + 1)) (i + 1) true := by rw [hd]; show (if c = 92 then _ else _) = _; rw [if_pos h92]
         rw [ei] at hits ⊢
         rw [if_pos (by simpa using h92)]
         refine seg_execs_cons (seg_wrap (esc_set (s := { s with heap := h', toks := tk₂ }) X hN fun h₃ hn₃ hs₃ => ?_))
         refine seg_execs_nil (seg_execs_nil (seg_execs_nil (again true s₀ _ pre (mk true _ ⟨_, i, t₁, hn₃, if_pos rfl, ?_, fun _ => rfl⟩ fun b hb o x => ?_) (hs'.step fun b o hb x => hs₃.extBut b o (fun h => hb (by simp [h])) x) hits)))
         · rw [if_neg (by decide)]; exact hpos
         · exact hs₃.extBut b o (neN b hb) x
       · have ei : escItems (z.cps.toList.drop i) i false = (i, [c]) :: escItems (z.cps.toList.drop (i + 1)) (i + 1) false := by rw [hd]; show (if c = 92 then _ else _) = _; rw [if_neg h92]
         rw [ei] at hits ⊢
         rw [if_neg (by simpa using h92)]
         refine seg_execs_cons (seg_Expr_Yield hfs rfl hfg (esc_tup (s := { s with heap := h', toks := tk₂ }) (l := [c]) X hN hpos rfl (fun Q hQ => esc_name X X.ch hN hch (by decide) (hQ _ tk₂)) fun u tk' kap hkap => ?_) X.co X.ia)
         refine esc_out (s := { s with heap := h', toks := tk₂ }) (GSt.lt (mk false _ ⟨m, _, t₁, hN, hesc, hpos, fun _ => rfl⟩ fun _ _ _ x => x)) (hs'.step (tk := tk₂) fun _ _ _ x => x) hits rfl fun s'' hal => hkap _ s'' ?_
         have hN'' := hN.at' (fun o x => hal env.locals (by simp) o x)
         refine seg_execs_nil (seg_execs_nil (seg_execs_nil (again false s'' _ (pre ++ [(i, [c])]) (mk false _ ⟨_, i, t₁, hN'', hesc, hpos, fun h => by cases h⟩ fun b hb o x => hal b (List.mem_cons_of_mem _ hb) o x) (Since.refl _ s'') (by rw [hits]; simp))))
end
end Mine

-- part 37
namespace Mine
noncomputable def escP : Nat → Pos
  | 1 => ⟨9, 11, 9, 17⟩
  | 2 => ⟨10, 19, 10, 22⟩
  | 3 => ⟨10, 24, 10, 28⟩
  | 4 => ⟨10, 31, 10, 33⟩
  | 5 => ⟨10, 24, 10, 33⟩
  | 6 => ⟨10, 18, 10, 34⟩
  | 7 => ⟨10, 12, 10, 34⟩
  | 8 => ⟨10, 12, 10, 34⟩
  | 9 => ⟨11, 12, 11, 18⟩
  | 10 => ⟨11, 21, 11, 26⟩
  | 11 => ⟨11, 12, 11, 26⟩
  | 12 => ⟨12, 13, 12, 15⟩
  | 13 => ⟨12, 19, 12, 23⟩
  | 14 => ⟨12, 13, 12, 23⟩
  | 15 => ⟨13, 12, 13, 18⟩
  | 16 => ⟨13, 21, 13, 25⟩
  | 17 => ⟨13, 12, 13, 25⟩
  | 18 => ⟨15, 19, 15, 22⟩
  | 19 => ⟨15, 24, 15, 26⟩
  | 20 => ⟨15, 18, 15, 27⟩
  | 21 => ⟨15, 12, 15, 27⟩
  | 22 => ⟨15, 12, 15, 27⟩
  | 23 => ⟨12, 8, 15, 27⟩
  | 24 => ⟨9, 8, 15, 27⟩
  | _ => ⟨0, 0, 0, 0⟩
noncomputable def escQ : Nat → Pos
  | 1 => ⟨6, 4, 6, 7⟩
  | 2 => ⟨6, 10, 6, 11⟩
  | 3 => ⟨6, 4, 6, 11⟩
  | 4 => ⟨7, 4, 7, 10⟩
  | 5 => ⟨7, 13, 7, 18⟩
  | 6 => ⟨7, 4, 7, 18⟩
  | 7 => ⟨8, 8, 8, 11⟩
  | 8 => ⟨8, 13, 8, 15⟩
  | 9 => ⟨8, 8, 8, 15⟩
  | 10 => ⟨8, 19, 8, 28⟩
  | 11 => ⟨8, 29, 8, 33⟩
  | 12 => ⟨8, 19, 8, 34⟩
  | 13 => ⟨8, 4, 15, 27⟩
  | 14 => ⟨16, 7, 16, 13⟩
  | 15 => ⟨17, 15, 17, 18⟩
  | 16 => ⟨17, 20, 17, 24⟩
  | 17 => ⟨17, 14, 17, 25⟩
  | 18 => ⟨17, 8, 17, 25⟩
  | 19 => ⟨17, 8, 17, 25⟩
  | 20 => ⟨16, 4, 17, 25⟩
  | _ => ⟨0, 0, 0, 0⟩
noncomputable def escFn (p q : Nat → Pos) : List Stmt := [.Assign [.Name "pos" (q 1)] (.Constant (.int 0) 0 (q 2)) (q 3), .Assign [.Name "escape" (q 4)] (.Constant (.bool false) 0 (q 5)) (q 6),
  .For (.Tuple [.Name "pos" (q 7), .Name "ch" (q 8)] 0 (q 9)) (.Call (.Name "enumerate" (q 10)) [.Name "addr" (q 11)] [] (q 12)) (escBody p) [] (q 13),
  .If (.Name "escape" (q 14)) [.Expr (.Yield (some (.Tuple [.Name "pos" (q 15), .Constant (.str "\\") 0 (q 16)] 0 (q 17))) (q 18)) (q 19)] [] (q 20)]
theorem esc_body : (topDf "_iter_escaped_chars").body = escFn escP escQ := rfl
section
variable {prog : Program} {w : World} {B : Heap} {mg mb : Str → Option Value} {A : Around} {s : Shared}
theorem seg_escFn {env : Env} {z : Str} {t : Tok} {p q : Nat → Pos} {m : Str → Option Value} (D : BaseF B mg mb) (X : EscEnv env) (hh : A.handled = none) (hB : PH.Sub (ofHeap B) s.heap) (hBN : B.get? env.locals = none) (hg : env.globals = mainGlobals) (hb : env.builtins = builtinsNs) (ha : env.kindOf "addr" = some .local) (he : env.kindOf "enumerate" = some .globalImplicit)
    (hns : s.heap.Ns env.locals m) (hz : m "addr" = some (.str z t)) :
    Seg (model prog w) A (RE [env.locals, s.heap.objs.size + 1, s.heap.objs.size]) (YE (escItems z.cps.toList 0 false) [env.locals, s.heap.objs.size + 1, s.heap.objs.size]) (escItems z.cps.toList 0 false).length s (.func (escFn p q) env) ((model prog w).den (.func (escFn p q) env)) [] s := by
  refine seg_func ?_
  unfold escFn
  refine seg_execs_cons (seg_wrap (wpAny_Assign_Name (wpAny_Constant_int (store_ns (s := { s with toks := s.toks + 1 }) X X.pos hns fun h₁ hn₁ hs₁ => ?_)) rfl))
  refine seg_execs_cons (seg_wrap (esc_set X hn₁ fun h₂ hn₂ hs₂ => ?_))
  have hk₂ : ∀ b o, b ≠ env.locals → s.heap.get? b = some o → h₂.get? b = some o := fun b o hne x => hs₂.extBut b o hne (hs₁.extBut b o hne x)
  have sz₂ : h₂.objs.size = s.heap.objs.size := by rw [hs₂.1]; exact hs₁.1
  have hB₂ : PH.Sub (ofHeap B) h₂ := fun b o x => hk₂ b o (by rintro rfl; rw [show ofHeap B env.locals = none from hBN] at x; cases x) (hB b o x)
  have hlt : env.locals < h₂.objs.size := hn₂.lt
  refine seg_execs_cons (seg_For (fun _ => rfl) ?_)
  refine call_typ1 (cx := ⟨0, env, [], []⟩) (T := "enumerate") (fun Q hq => Name_function_global X.kind he (loadGlobal_builtin (mg := mg) (mb := mb) (by rw [show (Cx.env ⟨0, env, [], []⟩).globals = mainGlobals from hg]; exact D.g.keeps hB₂) (D.free _ (by decide)) (by rw [show (Cx.env ⟨0, env, [], []⟩).builtins = builtinsNs from hb]; exact D.b.keeps hB₂) ((D.builtins _ (by decide)).trans (by decide +kernel)) hq) (by decide)) rfl ?_
  refine esc_name X ha hn₂ (v := .str z t) (by rw [if_neg (by decide), if_neg (by decide)]; exact hz) (by decide) ?_
  refine call_enumerate_str fun h₃ hen hsi hsz hk₃ => ?_
  simp only [sz₂] at hen hsi hsz hk₃ ⊢
  refine wpAny_pyIter_enum (s := { s with heap := h₃, toks := _ }) hen fun pp => ?_
  have hn₃ := hn₂.keeps hk₃
  have lN : env.locals < s.heap.objs.size := hns.lt
  refine seg_escLoop (its := escItems z.cps.toList 0 false) X (by exact hh) (by rfl) (by rfl) (fun esc s₀ s₄ pre hm hl hs hits => ?_) z.cps.size 0 false s _ [] rfl (Nat.zero_le _) ⟨⟨_, 0, s.toks, hn₃, if_pos rfl, ?_, fun h => by cases h⟩, ⟨_, hen⟩, hsi, (by exact Nat.succ_ne_self _), (by exact Nat.ne_of_gt (Nat.lt_succ_of_lt lN)), (by exact Nat.ne_of_gt lN), (by exact Nat.lt_succ_self _)⟩ ⟨h₃, _, rfl, fun b o hb x => hk₃ b o (hk₂ b o (fun h => hb (by simp [h])) x)⟩ rfl
  · obtain ⟨m₄, p₄, t₄, hn₄, hes₄, hps₄, hp₄⟩ := hm
    refine seg_leaf (.ok .next) ?_
    show Seg _ _ _ _ _ _ _ ((execs [Stmt.If (.Name "escape" (q 14)) [.Expr (.Yield (some (.Tuple [.Name "pos" (q 15), .Constant (.str "\\") 0 (q 16)] 0 (q 17))) (q 18)) (q 19)] [] (q 20)] env).wrap _ _ _ _) [] s₄
    refine seg_execs_cons (seg_If (esc_test X hn₄ hes₄ ?_))
    cases esc with
    | true =>
      rw [if_pos rfl]
      refine seg_execs_cons (seg_Expr_Yield rfl rfl rfl (esc_tup (l := [92]) X hn₄ hps₄ rfl (fun Q hQ => wpAny_Constant_str (hQ _ _)) fun u tk' kap hkap => ?_) X.co X.ia)
      have e1 : p₄ = ((z.cps.size - 1 : Nat) : Int) := hp₄ rfl
      subst e1
      refine esc_out hl hs (by rw [hits]; rfl) rfl fun s'' hal => hkap _ s'' ?_
      refine seg_execs_nil (seg_execs_nil (seg_end (.ok (.ret .none)) ⟨rfl, rfl, Since.refl _ _⟩))
    | false =>
      rw [if_neg (by simp)]
      exact seg_execs_nil (seg_execs_nil (seg_end (.ok (.ret .none)) ⟨rfl, rfl, hs⟩))
  · rw [if_neg (by decide), if_pos rfl]
end
end Mine

-- part 38
namespace Mine
section
variable {prog : Program} {w : World} {B : Heap} {C : Addr} {mg mb : Str → Option Value} {n : Nat} {A : Around} {E : Value → Shared → Prop} {s : Shared}
theorem restG_gen {gi : Nat} {h' : Heap} {tk : Nat} {gs' : GenState} (hb : gs'.bare = true) : RestG (· = gi) s (({ s.setGen gi .running with heap := h', toks := tk } : Shared).setGen gi gs') := by
  have get : ∀ i, i ≠ gi → (({ s.setGen gi .running with heap := h', toks := tk } : Shared).setGen gi gs').gens[i]? = s.gens[i]? := fun i hi => by
    simp [Shared.setGen, Ne.symm hi]
  refine ⟨rfl, fun i x hi hx => (get i hi).trans hx, fun hall y hy => ?_⟩
  obtain ⟨i, hi⟩ := Array.mem_iff_getElem?.mp hy
  by_cases hg : i = gi
  · subst hg
    by_cases hl : i < s.gens.size
    · have : some gs' = some y := by
        rw [← hi]; simp [Shared.setGen, hl]
      cases this; exact hb
    · exfalso
      rw [Array.getElem?_eq_none (by simpa [Shared.setGen] using hl)] at hi; cases hi
  · rw [get i hg] at hi
    exact hall y (Array.mem_iff_getElem?.mpr ⟨i, hi⟩)
theorem esc_next {its : List (Nat × List Nat)} {fp : List Addr} {ag : Addr} {gi j : Nat} {gs : GenState} {Q : Option Value → Shared → Prop} (hh : A.handled = none) (hl : s.heap.NoLimit) (hroom : A.depth < recursionLimit) (hg : s.heap.IsGen ag gi) (hgs : s.gens[gi]? = some gs) (hj : j ≤ its.length)
    (hgo : gs.Goes (model prog w) A.in1 (RE fp) (YE its fp) (its.length - j) (.send .none) (s.setGen gi .running))
    (hY : ∀ q v h' tk gs', its[j]? = some q → (∀ b o, b ∉ fp → s.heap.get? b = some o → h'.get? b = some o) → (∀ b ∈ fp, ∃ o, h'.get? b = some o) → (∃ a t₁ t₂, v = .ref a ∧ h'.get? a = some (tupObj [.int q.1 t₁, .str ⟨q.2.toArray⟩ t₂] 0) ∧ s.heap.get? a = none ∧ a ∉ fp) → gs'.bare = true →
      (∀ s'' : Shared, (∀ b ∈ fp, ∀ o, h'.get? b = some o → s''.heap.get? b = some o) → gs'.Goes (model prog w) A.in1 (RE fp) (YE its fp) (its.length - (j + 1)) (.send .none) s'') → Q (some v) (({ s.setGen gi .running with heap := h', toks := tk } : Shared).setGen gi gs'))
    (hN : j = its.length → ∀ h' tk, (∀ b o, b ∉ fp → s.heap.get? b = some o → h'.get? b = some o) → Q none (({ s.setGen gi .running with heap := h', toks := tk } : Shared).setGen gi .finished)) : wpAny (model prog w) A (pyNext (.ref ag)) Q E s := by
  refine next_fun (P := fun n s₀ s₁ => n = 0 ∧ Since fp s₀ s₁) hh hl hroom hg hgs hgo (fun v s₁ gs' hb hy => ?_) (fun s₁ hp h' hk => ?_)
  · obtain ⟨⟨q, hq, hf⟩, ⟨h', tk, rfl, hk⟩, hlv, hkap⟩ := hy
    rcases Nat.lt_or_ge j its.length with hlt | hge
    · obtain ⟨m, hm⟩ : ∃ m, its.length - j = m + 1 := ⟨its.length - j - 1, (Nat.sub_add_cancel (Nat.sub_pos_of_lt hlt)).symm⟩
      rw [hm] at hkap hq
      have e0 : its.length = m + j + 1 := (Nat.eq_add_of_sub_eq (Nat.le_of_lt hlt) hm).trans (Nat.add_right_comm m 1 j)
      have e1 : its.length - 1 - (m + 1 - 1) = j := by rw [e0]; exact Nat.add_sub_cancel_left ..
      have e2 : its.length - (j + 1) = m := by rw [e0]; exact (Nat.add_sub_add_right (m + j) 1 j).trans (Nat.add_sub_cancel ..)
      rw [e1] at hq
      refine hY q v h' tk gs' hq hk hlv ?_ hb fun s'' hal => ?_
      · obtain ⟨a, t₁, t₂, r1, r2, r3, r4⟩ := hf
        exact ⟨a, t₁, t₂, r1, r2, r3, r4⟩
      · rw [e2]; exact hkap s'' hal
    · rw [Nat.sub_eq_zero_of_le hge] at hkap
      exact (hkap _ fun _ _ _ e => e).elim
  · obtain ⟨h0, h₁, tk, rfl, hk₁⟩ := hp
    exact hN (Nat.le_antisymm hj (Nat.le_of_sub_eq_zero h0)) h' tk fun b o hb e => hk b o (hk₁ b o hb e)
theorem letGo_gen {target : Expr} {I : Addr} {gi : Nat} {v : Value} {Q : Unit → Shared → Prop} (h : s.heap.IsGen I gi) (hq : Q () s) : wpAny (model prog w) A (letOwnedTupleGo target (.ref I) v) Q E s := by
  obtain ⟨o, nm, qn, h1, h2, h3, h4⟩ := h
  refine letGo_el (wpAny_pure hq) ?_
  cases v with
  | ref a =>
    refine wpAny_bind (wpAny_load h1 ?_)
    rw [h2, h3]
    exact wpAny_pure hq
  | _ => exact wpAny_pure hq
noncomputable abbrev escF (p : Nat × List Nat) : V := .tup [.int p.1, .str ⟨p.2.toArray⟩]
theorem esc_rep {g : PH} {a : Addr} {t₁ t₂ : Tok} {q : Nat × List Nat} : Rep C (g.put a (tupObj [.int q.1 t₁, .str ⟨q.2.toArray⟩ t₂] 0)) (.ref a) (escF q) :=
  .tup (PH.put_self ..) (.cons (.int _ _) (.cons (.str _ _) .nil))
noncomputable def EscSt (prog : Program) (w : World) (A : Around) (its : List (Nat × List Nat)) (fp : List Addr) (ag : Addr) (gi : Nat) (k : Nat) (j : Nat) (s : Shared) : Prop :=
  s.heap.IsGen ag gi ∧ (∀ b ∈ fp, ∃ o, s.heap.get? b = some o) ∧ ∃ gs, s.gens[gi]? = some gs ∧ ∀ s'' : Shared, (∀ b ∈ fp, ∀ o, s.heap.get? b = some o → s''.heap.get? b = some o) → gs.Goes (model prog w) A.in1 (RE fp) (YE its fp) (its.length - (j + k)) (.send .none) s''
theorem isGen_at {h h' : Heap} {a : Addr} {g : Nat} (x : h.IsGen a g) (hk : ∀ o, h.get? a = some o → h'.get? a = some o) : h'.IsGen a g := let ⟨o, nm, qn, ho, r⟩ := x; ⟨o, nm, qn, hk o ho, r⟩
theorem stepE_gen {wr fp : List Addr} {g' : PH} {gi : Nat} {h' : Heap} {tk : Nat} {gs' : GenState} {a : Addr} {o : Obj} (hb : gs'.bare = true) (hfp : ∀ b ∈ fp, b ∈ wr ∨ s.heap.get? b = none) (hsub : PH.Sub g' s.heap) (hwr : ∀ b ∈ wr, g' b = none)
    (hk : ∀ b o, b ∉ fp → s.heap.get? b = some o → h'.get? b = some o) (ho : h'.get? a = some o) (ha : s.heap.get? a = none) : StepE wr (· = gi) s g' (({ s.setGen gi .running with heap := h', toks := tk } : Shared).setGen gi gs') (g'.put a o) := by
  have hga : g' a = none := by
    cases q : g' a with
    | none => rfl
    | some o' => rw [hsub a o' q] at ha; cases ha
  have hk' : ∀ b o, b ∉ wr → s.heap.get? b = some o → h'.get? b = some o := fun b o hb e => hk b o (fun h => by
    rcases hfp b h with z | z
    · exact hb z
    · rw [e] at z; cases z) e
  refine ⟨hk', PH.le_put hga, fun b o' e => ?_, fun b o' e => ?_, restG_gen hb⟩
  · rcases PH.put_cases e with ⟨rfl, rfl⟩ | e
    · exact ho
    · exact hk' b o' (fun hm => by rw [hwr b hm] at e; cases e) (hsub b o' e)
  · rcases PH.put_cases e with ⟨rfl, rfl⟩ | e
    · exact .inr ha
    · exact .inl e
theorem esc_myB {its : List (Nat × List Nat)} {fp : List Addr} {ag : Addr} {gi : Nat} {target : Expr} {g : PH} {q₀ : Nat × List Nat} {r : List (Nat × List Nat)} (hits : its = q₀ :: r) (D : BaseF B mg mb) (hA : AOk n A) (hag : ag ∉ fp) : MyB prog w B C A target ag (ag :: fp) (· = gi) g (r.map escF) (EscSt prog w A its fp ag gi 1) where
  live j s h b hb := by
    rcases List.mem_cons.mp hb with rfl | hb
    · obtain ⟨o, _, _, ho, _⟩ := h.1; exact ⟨o, ho⟩
    · exact h.2.1 b hb
  frame j s s' h hk hs hg := by
    obtain ⟨h1, h2, gs, h3, h4⟩ := h
    exact ⟨isGen_at h1 fun o e => hk ag (List.mem_cons_self ..) o e, fun b hb => let ⟨o, ho⟩ := h2 b hb; ⟨o, hk b (List.mem_cons_of_mem _ hb) o ho⟩, gs, hg gi gs rfl h3, fun s'' hal => h4 s'' fun b hb o e => hal b hb o (hk b (List.mem_cons_of_mem _ hb) o e)⟩
  item j s d g' Q E hB hi h hle hs hwr hq := by
    obtain ⟨h1, h2, gs, h3, h4⟩ := h
    have hjl : j < r.length := by
      have := (List.getElem?_eq_some_iff.mp hi).1
      simpa using this
    have hlen : its.length = r.length + 1 := by rw [hits]; rfl
    refine esc_next (j := j + 1) hA.handled (D.nolimit.keeps hB) (by have := hA.depth; omega) h1 h3 (by omega) (h4 _ fun _ _ _ e => e) (fun q v h' tk gs' hq' hk hlv hf hb hgo => ?_) (fun e => by omega)
    obtain ⟨a, t₁, t₂, rfl, ha, hfr, hafp⟩ := hf
    have ed : d = escF q := by
      rw [hits, List.getElem?_cons_succ] at hq'
      rw [List.getElem?_map, hq'] at hi
      cases hi; rfl
    subst ed
    have hag' : h'.IsGen ag gi := isGen_at h1 fun o e => hk ag o hag e
    refine hq _ _ fun Q' E' hQ' => letGo_gen (gi := gi) hag' ?_
    refine hQ' _ _ (stepE_gen hb (fun b hb => .inl (List.mem_cons_of_mem _ hb)) hs hwr hk ha hfr) esc_rep ⟨hag', hlv, gs', setGen_self (gs := .running) (setGen_self h3), hgo⟩
  done s Q E hB h hs hq := by
    obtain ⟨h1, h2, gs, h3, h4⟩ := h
    have hlen : its.length = r.length + 1 := by rw [hits]; rfl
    refine esc_next (j := (r.map escF).length + 1) hA.handled (D.nolimit.keeps hB) (by have := hA.depth; omega) h1 h3 (by simp; omega) (h4 _ fun _ _ _ e => e) (fun q v h' tk gs' hq' hk hlv hf hb hgo => ?_) (fun e h' tk hk => ?_)
    · exfalso
      rw [hits, List.getElem?_cons_succ, List.getElem?_eq_none (by simp)] at hq'; cases hq'
    · exact hq _ (fun b o hb e => hk b o (fun h => hb (List.mem_cons_of_mem _ h)) e) (restG_gen rfl)
end
end Mine

-- part 39
namespace Mine
section
variable {prog : Program} {w : World} {B : Heap} {C : Addr} {mg mb : Str → Option Value} {n : Nat} {A : Around} {E : Value → Shared → Prop} {s : Shared}
theorem ge1 {b M : Addr} (h : b = M + 1) : M ≤ b := h ▸ Nat.le_succ M
theorem ge0 {b M : Addr} (h : b = M) : M ≤ b := h ▸ Nat.le_refl M
theorem escV_map (z : Str) : escV z = (escItems z.cps.toList 0 false).map escF := rfl
theorem esc_fst {z : Str} {t : Tok} {env : Env} {ag : Addr} {gi : Nat} {target : Expr} {g : PH} {m : Str → Option Value} {p q : Nat → Pos} (D : BaseF B mg mb) (X : EscEnv env) (hB : PH.Sub (ofHeap B) s.heap) (hf : PH.Sub g s.heap) (hBN : B.get? env.locals = none) (hgN : g env.locals = none) (hga : g ag = none) (hgl : env.globals = mainGlobals) (hbl : env.builtins = builtinsNs) (ha : env.kindOf "addr" = some .local) (he : env.kindOf "enumerate" = some .globalImplicit)
    (hns : s.heap.Ns env.locals m) (hz : m "addr" = some (.str z t)) (hag : s.heap.IsGen ag gi) (hgs : s.gens[gi]? = some (.fresh (.func (escFn p q) env))) (haN : ag ≠ env.locals) : MyFst prog w B C n target ag [ag, env.locals] (· = gi) g (escV z) s := by
  have lN := hns.lt
  have lA : ag < s.heap.objs.size := by obtain ⟨o, _, _, ho, _⟩ := hag; exact Heap.lt_size ho
  have nu : ∀ b, s.heap.objs.size ≤ b → s.heap.get? b = none := fun b hb => by
    cases e : s.heap.get? b with
    | none => rfl
    | some o' => exact absurd (Heap.lt_size e) (Nat.not_lt.mpr hb)
  have agfp : ag ∉ [env.locals, s.heap.objs.size + 1, s.heap.objs.size] := by
    simp only [List.mem_cons, List.not_mem_nil, or_false]
    rintro (h | h | h)
    · exact haN h
    · rw [h] at lA; exact absurd lA (Nat.not_lt.mpr (Nat.le_succ _))
    · rw [h] at lA; exact absurd lA (Nat.lt_irrefl _)
  have goes : ∀ A : Around, A.handled = none → (GenState.fresh (.func (escFn p q) env)).Goes (model prog w) A.in1 (RE [env.locals, s.heap.objs.size + 1, s.heap.objs.size]) (YE (escItems z.cps.toList 0 false) [env.locals, s.heap.objs.size + 1, s.heap.objs.size]) ((escItems z.cps.toList 0 false).length - 0) (.send .none) (s.setGen gi .running) := fun A hh =>
    ⟨rfl, seg_escFn (A := A.in1) (s := s.setGen gi .running) D X hh hB hBN hgl hbl ha he hns hz⟩
  have inW : ∀ b, b ∉ [ag, env.locals] → ∀ o, s.heap.get? b = some o → b ∉ [env.locals, s.heap.objs.size + 1, s.heap.objs.size] := fun b hb o e h => by
    simp at h hb
    rcases h with h | h | h
    · exact hb.2 h
    · rw [nu b (ge1 h)] at e; cases e
    · rw [nu b (ge0 h)] at e; cases e
  have gnone : ∀ b ∈ [ag, env.locals], g b = none := fun b hb => by
    simp at hb
    rcases hb with rfl | rfl
    · exact hga
    · exact hgN
  refine ⟨fun A Q E hq => wpAny_pyIter_gen hag hq, fun b hb => ?_, fun hnil A Q E hA hq => ?_, fun d ds hcons A Q E hA hq => ?_⟩
  · simp at hb
    rcases hb with rfl | rfl
    · obtain ⟨o, _, _, ho, _⟩ := hag; exact ⟨o, ho⟩
    · obtain ⟨o, _, _, ho, _⟩ := hns; exact ⟨o, ho⟩
  · rw [escV_map, List.map_eq_nil_iff] at hnil
    refine esc_next (j := 0) hA.handled (D.nolimit.keeps hB) (by have := hA.depth; omega) hag hgs (Nat.zero_le _) (goes A hA.handled) (fun q v h' tk gs' hq' => ?_) (fun e h' tk hk => ?_)
    · rw [hnil] at hq'; cases hq'
    · exact hq _ (fun b o hb e => hk b o (inW b hb o e) e) (restG_gen rfl)
  · rw [escV_map] at hcons
    cases hi : escItems z.cps.toList 0 false with
    | nil => rw [hi] at hcons; cases hcons
    | cons q₀ r =>
      rw [hi] at hcons
      cases hcons
      refine esc_next (j := 0) hA.handled (D.nolimit.keeps hB) (by have := hA.depth; omega) hag hgs (Nat.zero_le _) (goes A hA.handled) (fun q v h' tk gs' hq' hk hlv hfr hb hgo => ?_) (fun e => by rw [hi] at e; cases e)
      obtain ⟨a, t₁, t₂, rfl, hao, hfr, hafp⟩ := hfr
      rw [hi] at hq'; cases hq'
      have hag' : h'.IsGen ag gi := isGen_at hag fun o e => hk ag o agfp e
      refine hq _ _ (ag :: [env.locals, s.heap.objs.size + 1, s.heap.objs.size]) _ (esc_myB hi D hA agfp) (fun b hb => ?_) (fun b hb => ?_) fun Q' E' hQ' => letGo_gen (gi := gi) hag' ?_
      · simp at hb ⊢
        rcases hb with h | h
        · exact .inl h
        · exact .inr (.inl h)
      · simp at hb ⊢
        rcases hb with h | h | h | h
        · exact .inl (.inl h)
        · exact .inl (.inr h)
        · exact .inr (nu b (ge1 h))
        · exact .inr (nu b (ge0 h))
      · refine hQ' _ _ (stepE_gen hb (fun b hb => ?_) hf gnone hk hao hfr) (fun b hb => ?_) esc_rep ⟨hag', hlv, gs', setGen_self (gs := .running) (setGen_self hgs), hgo⟩
        · simp at hb ⊢
          rcases hb with h | h | h
          · exact .inl (.inr h)
          · exact .inr (nu b (ge1 h))
          · exact .inr (nu b (ge0 h))
        · have ba : b ≠ a := by
            rintro rfl
            rcases List.mem_cons.mp hb with h | h
            · obtain ⟨o, _, _, ho, _⟩ := hag; rw [h, ho] at hfr; cases hfr
            · exact hafp h
          unfold PH.put
          rw [if_neg ba]
          cases q : g b with
          | none => rfl
          | some o =>
            simp at hb
            rcases hb with h | h | h | h
            · rw [h, hga] at q; cases q
            · rw [h, hgN] at q; cases q
            · have := hf _ _ q; rw [nu b (ge1 h)] at this; cases this
            · have := hf _ _ q; rw [nu b (ge0 h)] at this; cases this
theorem H_nolimit (D : BaseF B mg mb) (hB : PH.Sub (ofHeap B) s.heap) : s.heap.NoLimit := D.nolimit.keeps hB
theorem esc_ok {a : Addr} {pm cd doc : Value} (D : BaseF B mg mb) (F : FnAt B a (fdOf "_iter_escaped_chars" pm cd doc)) : EscOk prog w B C n a := by
  intro A s g E Q z t target hA hB hf hz ht hq
  obtain ⟨o, ho, hd⟩ := F.at_
  have hdep := hA.depth
  have c1 : (fdOf "_iter_escaped_chars" pm cd doc).scope.isCoroutine = false := by
    show (topDf "_iter_escaped_chars").scope.isCoroutine = false
    decide +kernel
  have c2 : (fdOf "_iter_escaped_chars" pm cd doc).scope.isGenerator = true := by
    show (topDf "_iter_escaped_chars").scope.isGenerator = true
    decide +kernel
  have c3 : (fdOf "_iter_escaped_chars" pm cd doc).scope.kind = .function := by
    show (topDf "_iter_escaped_chars").scope.kind = .function
    decide +kernel
  have c4 : ∀ x ∈ (fdOf "_iter_escaped_chars" pm cd doc).scope.names, x.2 ≠ .cell := by
    show ∀ x ∈ (topDf "_iter_escaped_chars").scope.names, x.2 ≠ .cell
    decide +kernel
  have c5 : (fdOf "_iter_escaped_chars" pm cd doc).scope.names.lookup ("addr" : Str) = some .local := by
    show (topDf "_iter_escaped_chars").scope.names.lookup ("addr" : Str) = some .local
    decide +kernel
  have c6 : (fdOf "_iter_escaped_chars" pm cd doc).scope.names.lookup ("pos" : Str) = some .local ∧ (fdOf "_iter_escaped_chars" pm cd doc).scope.names.lookup ("escape" : Str) = some .local ∧ (fdOf "_iter_escaped_chars" pm cd doc).scope.names.lookup ("ch" : Str) = some .local ∧ (fdOf "_iter_escaped_chars" pm cd doc).scope.names.lookup ("enumerate" : Str) = some .globalImplicit := by
    show (topDf "_iter_escaped_chars").scope.names.lookup ("pos" : Str) = some .local ∧ (topDf "_iter_escaped_chars").scope.names.lookup ("escape" : Str) = some .local ∧ (topDf "_iter_escaped_chars").scope.names.lookup ("ch" : Str) = some .local ∧ (topDf "_iter_escaped_chars").scope.names.lookup ("enumerate" : Str) = some .globalImplicit
    decide +kernel
  refine wpAny_call (codeAny_call_generator (body := escFn escP escQ) (by omega) (hB _ _ ho) hd c1 c2 (by show FuncBody.stmts _ = _; rw [esc_body]) (F.code.keeps hB) ?_)
  refine wpAny_of_eq (a := [(("addr" : Str), Value.str z t)]) rfl ?_
  refine wpAny_newFunctionEnv c4 (by intro x hx; simp at hx; subst hx; exact c5) (fun h' hn' hs' => ?_) c3
  have hk : ∀ b o, s.heap.get? b = some o → h'.get? b = some o := fun b o e => hs'.extBut b o (Nat.ne_of_lt (Heap.lt_size e)) (Heap.get?_push_of_some _ e)
  have szh : h'.objs.size = s.heap.objs.size + 1 := by rw [hs'.1, Heap.size_push]
  have nu : ∀ b, s.heap.objs.size ≤ b → s.heap.get? b = none := fun b hb => by
    cases e : s.heap.get? b with
    | none => rfl
    | some o' => exact absurd (Heap.lt_size e) (Nat.not_lt.mpr hb)
  refine ⟨(H_nolimit D hB).keeps hk, ?_⟩
  have kk : ∀ o' b o, s.heap.get? b = some o → (h'.push o').get? b = some o := fun o' b o e => Heap.get?_push_of_some _ (hk b o e)
  have gnone : ∀ b, s.heap.objs.size ≤ b → g b = none := fun b hb => by
    cases q : g b with
    | none => rfl
    | some o => have := hf _ _ q; rw [nu b hb] at this; cases this
  have bnone : ∀ b, s.heap.objs.size ≤ b → B.get? b = none := fun b hb => by
    cases q : B.get? b with
    | none => rfl
    | some o => have := hB b o q; rw [nu b hb] at this; cases this
  generalize henv : newEnv _ _ _ _ _ _ _ _ _ = env
  have el : env.locals = s.heap.objs.size := by rw [← henv]; rfl
  have es : env.scope = (fdOf "_iter_escaped_chars" pm cd doc).scope := by rw [← henv]; rfl
  have X : EscEnv env := ⟨es ▸ c3, es ▸ c1, by rw [← henv]; rfl, by show env.scope.names.lookup _ = _; rw [es]; exact c6.1, by show env.scope.names.lookup _ = _; rw [es]; exact c6.2.1, by show env.scope.names.lookup _ = _; rw [es]; exact c6.2.2.1⟩
  refine hq h'.objs.size [h'.objs.size, s.heap.objs.size] (· = s.gens.size) _ (fun b o e => kk _ b o e) ⟨rfl, fun i x e => ?_, fun x => x.push rfl⟩ ?_ (fun b hb => ?_) (fun i hi => ?_)
  · show (s.gens.push _)[i]? = some x
    rw [Array.getElem?_push]
    have := (Array.getElem?_eq_some_iff.mp e).1
    rw [if_neg (Nat.ne_of_lt this)]; exact e
  · rw [← el]
    have eg : env.globals = mainGlobals := by rw [← henv]; exact F.glob
    have eb : env.builtins = builtinsNs := by rw [← henv]; exact F.blt
    exact esc_fst (gi := s.gens.size) (p := escP) (q := escQ) (t := t) (m := fun x => ([(("addr" : Str), Value.str z t)] : List (Str × Value)).reverse.lookup x) D X (fun b o e => kk _ b o (hB b o e)) (fun b o e => kk _ b o (hf b o e)) (bnone _ (el ▸ Nat.le_refl _)) (gnone _ (el ▸ Nat.le_refl _)) (gnone _ (by rw [szh]; exact Nat.le_succ _)) eg eb
      (by show env.scope.names.lookup _ = _; rw [es]; exact c5) (by show env.scope.names.lookup _ = _; rw [es]; exact c6.2.2.2) (el ▸ hn'.keeps fun b o e => Heap.get?_push_of_some _ e) rfl ⟨_, _, _, Heap.get?_push_size _ rfl, rfl, rfl, rfl⟩ (by simp) (by rw [szh, el]; exact Nat.succ_ne_self _)
  · simp at hb
    rcases hb with rfl | rfl
    · exact nu _ (by rw [szh]; exact Nat.le_succ _)
    · exact nu _ (Nat.le_refl _)
  · subst hi; simp
end
end Mine

-- part 40
namespace Mine
noncomputable def wsNames : List Str := ["__getattribute__", "__getattr__", "__setattr__", "raw", "n", "nt", "norm", "is_simple"]
structure WsAt (B : Heap) (C N : Addr) (mN : Str → Option Value) (fI fL fD fS : Addr) : Prop where
  cls : ∃ nm q bs sn sub col dd k0 k1 k2 k3 k5, B.get? C = some (excClassObj nm q C N bs [.type "object"] true sn sub false col dd k0 k1 k2 k3 k5 "object.__new__")
  ns : B.Ns N mN
  i : mN "__init__" = some (.ref fI)
  l : mN "longest_run_of_spaces" = some (.ref fL)
  d : mN "indent_level" = some (.ref fD)
  s : mN "less" = some (.ref fS)
  non : ∀ x ∈ wsNames, mN x = none
  fn : ∀ f ∈ [fI, fL, fD, fS], ∃ o, B.get? f = some o ∧ o.cls = .type "function"

section
variable {prog : Program} {w : World} {B : Heap} {C N : Addr} {mN : Str → Option Value} {fI fL fD fS : Addr} {n : Nat}
theorem no_attr {i : Nat} {va r : V} (h : attrV va i = some r) : ∃ wn wnt wc wb ws, va = .ws wn wnt wc wb ws := by
  cases va <;> first
    | exact ⟨_, _, _, _, _, rfl⟩
    | exact nomatch (show none = some r from h)
theorem lk_n : typeLookup (.type "object") "n" = pure none := by rw [typeLookup_type, builtinLookup_eq_fast]; kernel_rfl
theorem lk_nt : typeLookup (.type "object") "nt" = pure none := by rw [typeLookup_type, builtinLookup_eq_fast]; kernel_rfl
theorem lk_norm : typeLookup (.type "object") "norm" = pure none := by rw [typeLookup_type, builtinLookup_eq_fast]; kernel_rfl
theorem lk_simple : typeLookup (.type "object") "is_simple" = pure none := by rw [typeLookup_type, builtinLookup_eq_fast]; kernel_rfl
theorem lk_raw : typeLookup (.type "object") "raw" = pure none := by rw [typeLookup_type, builtinLookup_eq_fast]; kernel_rfl
theorem lk_long : typeLookup (.type "object") "longest_run_of_spaces" = pure none := by rw [typeLookup_type, builtinLookup_eq_fast]; kernel_rfl
theorem lk_ind : typeLookup (.type "object") "indent_level" = pure none := by rw [typeLookup_type, builtinLookup_eq_fast]; kernel_rfl
theorem lk_less : typeLookup (.type "object") "less" = pure none := by rw [typeLookup_type, builtinLookup_eq_fast]; kernel_rfl

theorem ws_load {A : Around} {s : Shared} {E : Value → Shared → Prop} {Q : Value → Shared → Prop} {x : Addr} {mA : Str → Option Value} {name : Str} {v : Value} {expr : Bool} (W : WsAt B C N mN fI fL fD fS) (hB : PH.Sub (ofHeap B) s.heap) (hn : name ∈ wsNames) (hB' : typeLookup (.type "object") name = pure none) (I : s.heap.Inst x C mA) (hv : mA name = some v) (hh : handedOut v = pure v)
    (hq : Q v { s with toks := s.toks + 1 }) : wpAny (model prog w) A (getAttr (.ref x) name expr) Q E s := by
  obtain ⟨h, g, d, t, os⟩ := s
  obtain ⟨_, _, _, _, _, _, _, _, _, _, _, _, hC⟩ := W.cls
  exact load_attr (hB _ _ hC) (W.ns.keeps hB) (W.non _ (by decide)) (W.non _ hn) hB' I hv hh hq
theorem ws_attr (W : WsAt B C N mN fI fL fD fS) : AttrOk prog w B C := by
  intro A s g L E Q cv va i r hB hH hr ha hQ
  obtain ⟨wn, wnt, wc, wb, ws, rfl⟩ := no_attr ha
  obtain ⟨a, rfl, c, d, mA, cs, O⟩ := hr
  have I := O.inst _ hH.frz
  have e1 : Ext L s g { s with toks := s.toks + 1 } g := Ext.tok hH.frz
  match i, ha with
  | 0, ha => exact O.n.elim fun t h => ws_load W hB (by decide) lk_n I h rfl (hQ _ _ g e1 (Option.some.inj ha ▸ .int _ _))
  | 1, ha => exact O.nt.elim fun t h => ws_load W hB (by decide) lk_nt I h rfl (hQ _ _ g e1 (Option.some.inj ha ▸ .int _ _))
  | 2, ha => exact O.d.elim fun t h => h.elim fun e h5 => O.c.elim fun e' h6 => ws_load W hB (by decide) lk_norm I O.norm rfl (hQ _ _ g e1 (Option.some.inj ha ▸ .tup h5 (.cons (.tup h6 (.of_ints O.cs)) (.cons (.int _ _) .nil))))
  | 3, ha => exact ws_load W hB (by decide) lk_simple I O.simple rfl (hQ _ _ g e1 (Option.some.inj ha ▸ .bool _))
theorem ws_meth {m : Str} {f : Addr} (W : WsAt B C N mN fI fL fD fS) (hm : mN m = some (.ref f)) (hf : f ∈ [fI, fL, fD, fS]) (hB' : typeLookup (.type "object") m = pure none) (hs : m = "longest_run_of_spaces" ∨ m = "indent_level" ∨ m = "less") : MethodAt prog w B C m f := by
  intro A s g L E Q cv wn wnt wc wb sm pl hB hH hr hQ
  obtain ⟨a, rfl, c, d', mA, cs, O⟩ := hr
  have I := O.inst _ hH.frz
  obtain ⟨h, gg, d, t, os⟩ := s
  obtain ⟨_, _, _, _, _, _, _, _, _, _, _, _, hC⟩ := W.cls
  exact (W.fn f hf).elim fun o ho => method_of (hB _ _ hC) (W.ns.keeps hB) (W.non _ (by decide)) (W.non _ (by decide)) hm (hB _ _ ho.1) ho.2 hB' I (hs.elim (fun e => e ▸ O.m1) fun hs => hs.elim (fun e => e ▸ O.m2) fun e => e ▸ O.m3) (hQ t)
end
end Mine

-- part 41


-- part 42
namespace Mine
section
variable {prog : Program} {w : World} {B : Heap} {C N : Addr} {mN : Str → Option Value} {fI fL fD fS : Addr} {mg mb : Str → Option Value} {n : Nat} {Sp : Nat → List V → V → Prop}
variable {cx : Cx} {K g₀ g : PH} {s₀ s : Shared} {val : Nat → Value} {ρ : List Slot} {A : Around} {E : Value → Shared → Prop} {sc : Scope}
theorem walks_str (hh : A.handled = none) (I : Addr) (z : Str) (t : Tok) : Walks prog w A I [I] [I] z.cps.size (SignAt z) (fun i h => h.IsStrIter I (strIterType z) z t i) := by
  unfold strIterType
  cases z.cps.all (· < 128)
  · exact Walks.strWide hh I z t
  · exact Walks.strAscii hh I z t
theorem letGo_strv {target : Expr} {I : Addr} {x : Str} {t : Tok} {Q : Unit → Shared → Prop} (hq : Q () s) : wpAny (model prog w) A (letOwnedTupleGo target (.ref I) (.str x t)) Q E s := letGo_el (wpAny_pure hq) (wpAny_pure hq)
noncomputable def signs (z : Str) : List V := z.cps.toList.map fun c => .str ⟨#[c]⟩
theorem MyIt.str (C : Addr) (n : Nat) (target : Expr) {I : Addr} {z : Str} {t : Tok} : MyIt prog w C n target I [I] (fun _ => False) g (signs z) (fun i s => s.heap.IsStrIter I (strIterType z) z t i) where
  live i s h b hb := one_mem (P := fun b => ∃ o, s.heap.get? b = some o) hb (h.elim fun o h => ⟨o, h.1⟩)
  frame i s s' h hk _ _ := h.elim fun o h => ⟨o, hk I (.head _) o h.1, h.2⟩
  item A i s d g' Q E hA hi h hle hs hwr hq := by
    have hl : i < z.cps.size := by
      have := (List.getElem?_eq_some_iff.mp hi).1
      simpa [signs] using this
    refine (walks_str (prog := prog) (w := w) hA.handled I z t).item i s Q E hl h fun v h' tk hP hst hk => ?_
    obtain ⟨c, u, hc, rfl⟩ := hP
    have ed : d = .str ⟨#[c]⟩ := by
      unfold signs at hi
      rw [List.getElem?_map] at hi
      have : z.cps.toList[i]? = some c := by simpa using hc
      rw [this] at hi
      cases hi; rfl
    subst ed
    exact hq _ _ fun Q' E' hQ' => letGo_strv (hQ' _ g' (.of hs hwr hk) (.str _ _) hst)
  done A s Q E hA h hs hq :=
    (walks_str (prog := prog) (w := w) hA.handled I z t).done s Q E (by rw [show (signs z).length = z.cps.size by simp [signs]] at h; exact h) fun h' tk hk => hq _ hk (.of .of)
  self A i s Q E h hq := by
    unfold strIterType at h
    cases ha : z.cps.all (· < 128)
    · rw [ha] at h; exact wpAny_pyIter_striter_wide h hq
    · rw [ha] at h; exact wpAny_pyIter_striter_ascii h hq

structure ObjAt (x dx C : Addr) (m : Str → Option Value) (h : Heap) : Prop where
  inst : h.Inst x C m
  dict : ∀ o, h.get? x = some o → o.dict = some dx
theorem mem2 {P : Addr → Prop} {a b c : Addr} (h : c ∈ [a, b]) (p : P a) (q : P b) : P c := (List.mem_cons.mp h).elim (fun e => e ▸ p) fun h => one_mem h q
theorem ObjAt.live {x dx C : Addr} {m : Str → Option Value} {h : Heap} (O : ObjAt x dx C m h) : ∀ b ∈ [x, dx], ∃ o, h.get? b = some o := fun b hb => by
  obtain ⟨o, ho, _, _, hd⟩ := O.inst
  refine mem2 (P := fun b => ∃ o, h.get? b = some o) hb ⟨o, ho⟩ (hd.elim (fun h => nos h.1 (O.dict o ho)) fun ⟨d, h1, _, h2⟩ => ?_)
  exact soms h1 (O.dict o ho) ▸ h2.elim fun o h => h.elim fun _ h => h.elim fun _ h => ⟨o, h.1⟩
theorem ObjAt.at' {x dx C : Addr} {m : Str → Option Value} {h h' : Heap} (O : ObjAt x dx C m h) (hk : ∀ b ∈ [x, dx], ∀ o, h.get? b = some o → h'.get? b = some o) : ObjAt x dx C m h' := by
  obtain ⟨o, ho, hc, hn, hd⟩ := O.inst
  have ho' := hk x (.head _) o ho
  refine ⟨⟨o, ho', hc, hn, hd.imp id fun ⟨d, h1, h2, h3⟩ => ⟨d, h1, h2, h3.at fun o₁ e => hk d ?_ o₁ e⟩⟩, fun o₁ h₁ => soms ho' h₁ ▸ O.dict o ho⟩
  exact soms (O.dict o ho) h1 ▸ .tail _ (.head _)
theorem put_attr {x dx : Addr} {m : Str → Option Value} {h₀ : Heap} {name : Str} {v : Value} {Q : Unit → Shared → Prop} (W : WsAt B C N mN fI fL fD fS) (hB : PH.Sub (ofHeap B) s.heap) (hBx : B.get? x = none) (hlives : ∀ y c, cx.env.cells.lookup y = some c → c ∈ cx.P ∨ ∃ o, K c = some o) (I : Inv cx (withK K [x, dx] h₀) g₀ s₀ val ρ g s)
    (hlive : ∀ b ∈ [x, dx], ∃ o, h₀.get? b = some o) (hK : ∀ b ∈ [x, dx], K b = none) (h0 : ∀ b ∈ [x, dx], g₀ b = none) (O : ObjAt x dx C m s.heap) (hn : name ∈ wsNames) (hB' : typeLookup (.type "object") name = pure none) (hw : Within m wsNames)
    (hq : ∀ s', Inv cx (withK K [x, dx] s'.heap) g₀ s₀ val ρ g s' → ObjAt x dx C (fun y => if y = name then some v else m y) s'.heap → Q () s') : wpAny (model prog w) A (setAttr (.ref x) name v) Q E s := by
  obtain ⟨h, gg, d, t, os⟩ := s
  obtain ⟨o, ho, hc, hnc, hd⟩ := O.inst
  obtain ⟨_, _, _, _, _, _, _, _, _, _, _, _, hC⟩ := W.cls
  refine store_attr (ns := wsNames) F.store_object (hB _ _ hC) (W.ns.keeps hB) (W.non _ (by decide)) (W.non _ hn) hB' (fun e => nos hBx (e ▸ hC)) O.inst (fun h' tk' I' hk hsame => ?_) hw (by rw [sizeLine_eq]; decide)
  have kk : ∀ b o, b ∉ [x, dx] → h.get? b = some o → h'.get? b = some o := fun b o₁ hb e => hk b o₁ (fun q => hb (q ▸ .head _)) (fun o₀ dx' h₀ hd' q => hb (q ▸ soms (O.dict o₀ h₀) hd' ▸ .tail _ (.head _))) e
  have On : ObjAt x dx C (fun y => if y = name then some v else m y) h' := ⟨I', fun o₁ h₁ => (hsame o ho).elim fun o₂ q => soms q.1 h₁ ▸ q.2.2.2.2 dx (O.dict o ho)⟩
  have Off' := I.off hlive h0
  exact hq _ (Inv.addK (s := ⟨h', gg, d, tk', os⟩) (I.dropK hlive h0 hK hlives kk (I.rest.trans (.of (tk := tk')))) ⟨Off'.g, Off'.P, Off'.own⟩ On.live) On
end
end Mine

-- part 43
namespace Mine
section
variable {Sp : Nat → List V → V → Prop} {ρ : List Slot} {Q : V → List Slot → Prop} {R : Out → Prop}
theorem e_none (h : Q .none ρ) : wpE Sp .none ρ Q := h
theorem e_bool {b : Bool} (h : Q (.bool b) ρ) : wpE Sp (.bool b) ρ Q := h
theorem e_int {i : Int} (h : Q (.int i) ρ) : wpE Sp (.int i) ρ Q := h
theorem e_str {x : Str} (h : Q (.str x) ρ) : wpE Sp (.str x) ρ Q := h
theorem getD_some {i : Nat} {s : Slot} (h : ρ[i]? = some s) : ρ.getD i .undef = s := by rw [List.getD_eq_getElem?_getD, h]; rfl
theorem e_fro {i : Nat} {v : V} (hi : ρ[i]? = some (.fro v)) (h : Q v ρ) : wpE Sp (.var i) ρ Q := by
  show (match ρ.getD i .undef with | .undef => False | .fro v => Q v ρ | .own l => Q (.list l) (ρ.set i (.fro (.list l))))
  rw [getD_some hi]; exact h
theorem e_own {i : Nat} {l : List V} (hi : ρ[i]? = some (.own l)) (h : Q (.list l) (ρ.set i (.fro (.list l)))) : wpE Sp (.var i) ρ Q := by
  show (match ρ.getD i .undef with | .undef => False | .fro v => Q v ρ | .own l => Q (.list l) (ρ.set i (.fro (.list l))))
  rw [getD_some hi]; exact h
theorem e_bin {op : Operator} {a b : CE} (h : wpE Sp a ρ fun va ρ₁ => wpE Sp b ρ₁ fun vb ρ₂ => ∃ r, binV op va vb = some r ∧ Q r ρ₂) : wpE Sp (.bin op a b) ρ Q := h
theorem e_neg {a : CE} (h : wpE Sp a ρ fun va ρ₁ => ∃ i, va = .int i ∧ Q (.int (-i)) ρ₁) : wpE Sp (.neg a) ρ Q := h
theorem e_cmp {op : CmpOp} {a b : CE} (h : wpE Sp a ρ fun va ρ₁ => wpE Sp b ρ₁ fun vb ρ₂ => (∃ r, cmpV op va vb r) ∧ ∀ r, cmpV op va vb r → Q (.bool r) ρ₂) : wpE Sp (.cmp op a b) ρ Q := h
theorem e_bop {op : BoolOp} {a b : CE} (h : wpE Sp a ρ fun va ρ₁ => ∃ x, va = .bool x ∧ ((x = (op == .Or)) → Q (.bool x) ρ₁) ∧ ((x ≠ (op == .Or)) → wpE Sp b ρ₁ fun vb ρ₂ => ∃ y, vb = .bool y ∧ Q (.bool y) ρ₂)) : wpE Sp (.bop op a b) ρ Q := h
theorem e_ite {t a b : CE} (h : wpE Sp t ρ fun vt ρ₁ => ∃ x, vt = .bool x ∧ (x = true → wpE Sp a ρ₁ Q) ∧ (x = false → wpE Sp b ρ₁ Q)) : wpE Sp (.ite t a b) ρ Q := h
theorem e_lst {l : List CE} (h : wpEs Sp l ρ fun vs ρ₁ => Q (.list vs) ρ₁) : wpE Sp (.lst l) ρ Q := h
theorem e_tup {l : List CE} (h : wpEs Sp l ρ fun vs ρ₁ => Q (.tup vs) ρ₁) : wpE Sp (.tup l) ρ Q := h
theorem es_nil {Q : List V → List Slot → Prop} (h : Q [] ρ) : wpEs Sp [] ρ Q := h
theorem es_cons {Q : List V → List Slot → Prop} {e : CE} {r : List CE} (h : wpE Sp e ρ fun v ρ₁ => wpEs Sp r ρ₁ fun vs ρ₂ => Q (v :: vs) ρ₂) : wpEs Sp (e :: r) ρ Q := h
theorem e_sub {a i : CE} (h : wpE Sp a ρ fun va ρ₁ => wpE Sp i ρ₁ fun vi ρ₂ => ∃ r, idxV va vi = some r ∧ Q r ρ₂) : wpE Sp (.sub a i) ρ Q := h
theorem e_subv {x : Nat} {i : CE} {s : Slot} (hx : ρ[x]? = some s) (hs : slotV s ≠ none) (h : wpE Sp i ρ fun vi ρ₁ => ∃ a r, slotV (ρ₁.getD x .undef) = some a ∧ idxV a vi = some r ∧ Q r ρ₁) : wpE Sp (.subv x i) ρ Q := by
  exact ⟨(getD_some hx).symm ▸ hs, h⟩
theorem e_slcv {x : Nat} {lo hi st : Option CE} {s : Slot} (hx : ρ[x]? = some s) (hs : slotV s ≠ none) (h : wpO Sp lo ρ fun vl ρ₂ => wpO Sp hi ρ₂ fun vh ρ₃ => wpO Sp st ρ₃ fun vs ρ₄ => ∃ a l h s r, slotV (ρ₄.getD x .undef) = some a ∧ partV vl = some l ∧ partV vh = some h ∧ partV vs = some s ∧ sliceV a l h s = some r ∧ Q r ρ₄) : wpE Sp (.slcv x lo hi st) ρ Q := by
  exact ⟨(getD_some hx).symm ▸ hs, h⟩
theorem e_slc {a : CE} {lo hi st : Option CE} (h : wpE Sp a ρ fun va ρ₁ => wpO Sp lo ρ₁ fun vl ρ₂ => wpO Sp hi ρ₂ fun vh ρ₃ => wpO Sp st ρ₃ fun vs ρ₄ => ∃ l h s r, partV vl = some l ∧ partV vh = some h ∧ partV vs = some s ∧ sliceV va l h s = some r ∧ Q r ρ₄) : wpE Sp (.slc a lo hi st) ρ Q := h
theorem o_none {Q : V → List Slot → Prop} (h : Q .none ρ) : wpO Sp none ρ Q := h
theorem o_some {Q : V → List Slot → Prop} {e : CE} (h : wpE Sp e ρ Q) : wpO Sp (some e) ρ Q := h
theorem e_len {a : CE} (h : wpE Sp a ρ fun va ρ₁ => ∃ n, lenV va = some n ∧ Q (.int n) ρ₁) : wpE Sp (.len a) ρ Q := h
theorem e_lenv {x : Nat} {s : Slot} {a : V} {n : Int} (hx : ρ[x]? = some s) (ha : slotV s = some a) (hn : lenV a = some n) (h : Q (.int n) ρ) : wpE Sp (.lenv x) ρ Q := by
  exact ⟨a, n, (getD_some hx).symm ▸ ha, hn, h⟩
theorem e_call {f : Nat} {args : List CE} (h : wpEs Sp args ρ fun vs ρ₁ => ∃ r, Sp f vs r ∧ Q r ρ₁) : wpE Sp (.call f args) ρ Q := h
theorem e_max {a b : CE} (h : wpE Sp a ρ fun va ρ₁ => wpE Sp b ρ₁ fun vb ρ₂ => ∃ x y, va = .int x ∧ vb = .int y ∧ Q (.int (if x < y then y else x)) ρ₂) : wpE Sp (.max a b) ρ Q := h
theorem e_attr {a : CE} {f : Nat} (h : wpE Sp a ρ fun va ρ₁ => ∃ r, attrV va f = some r ∧ Q r ρ₁) : wpE Sp (.attr a f) ρ Q := h
theorem b_add {P : V → Prop} {a b : Int} (h : P (.int (a + b))) : ∃ r, binV .Add (.int a) (.int b) = some r ∧ P r := ⟨_, rfl, h⟩
theorem b_sub {P : V → Prop} {a b : Int} (h : P (.int (a - b))) : ∃ r, binV .Sub (.int a) (.int b) = some r ∧ P r := ⟨_, rfl, h⟩
theorem b_mul {P : V → Prop} {a b : Int} (ha : a.natAbs < 2 ^ 62) (h : P (.int (a * b))) : ∃ r, binV .Mult (.int a) (.int b) = some r ∧ P r := ⟨_, if_pos ha, h⟩
theorem b_div {P : V → Prop} {a b : Int} (hb : b ≠ 0 ∧ b.natAbs < 1073741824) (h : P (.int (a.fdiv b))) : ∃ r, binV .FloorDiv (.int a) (.int b) = some r ∧ P r := ⟨_, if_pos hb, h⟩
theorem b_mod {P : V → Prop} {a b : Int} (hb : b ≠ 0) (h : P (.int (a.fmod b))) : ∃ r, binV .Mod (.int a) (.int b) = some r ∧ P r := ⟨_, if_pos hb, h⟩
theorem b_addS {P : V → Prop} {x y : Str} (hl : x.length + y.length ≤ 1048576) (h : P (.str (x ++ y))) : ∃ r, binV .Add (.str x) (.str y) = some r ∧ P r := ⟨_, if_pos hl, h⟩
theorem b_addL {P : V → Prop} {x y : List V} (hl : x.length + y.length ≤ 1048576) (h : P (.list (x ++ y))) : ∃ r, binV .Add (.list x) (.list y) = some r ∧ P r := ⟨_, if_pos hl, h⟩
theorem b_mulS {P : V → Prop} {x : Str} {n : Int} (hl : 0 ≤ n ∧ n ≤ 16 ∧ x.length ≤ 16) (h : P (.str (Txt.mul x n))) : ∃ r, binV .Mult (.str x) (.int n) = some r ∧ P r := ⟨_, if_pos hl, h⟩
theorem b_mulL {P : V → Prop} {a : List V} {n : Int} (hl : a.length ≤ 16 ∧ n ≤ 65536 ∧ -65536 ≤ n) (h : P (.list (List.replicate n.toNat a).flatten)) : ∃ r, binV .Mult (.list a) (.int n) = some r ∧ P r := ⟨_, if_pos hl, h⟩
theorem c_det {P : Bool → Prop} {op : CmpOp} {a b : V} {f : Bool} (hf : ∀ r, cmpV op a b r ↔ r = f) (h : P f) : (∃ r, cmpV op a b r) ∧ ∀ r, cmpV op a b r → P r := ⟨⟨f, (hf f).mpr rfl⟩, fun r hr => (hf r).mp hr ▸ h⟩
theorem c_eq {P : Bool → Prop} {a b : Int} (h : P (a == b)) : (∃ r, cmpV .Eq (.int a) (.int b) r) ∧ ∀ r, cmpV .Eq (.int a) (.int b) r → P r := c_det (fun _ => Iff.rfl) h
theorem c_ne {P : Bool → Prop} {a b : Int} (h : P (a != b)) : (∃ r, cmpV .NotEq (.int a) (.int b) r) ∧ ∀ r, cmpV .NotEq (.int a) (.int b) r → P r := c_det (fun _ => Iff.rfl) h
theorem c_lt {P : Bool → Prop} {a b : Int} (h : P (decide (a < b))) : (∃ r, cmpV .Lt (.int a) (.int b) r) ∧ ∀ r, cmpV .Lt (.int a) (.int b) r → P r := c_det (fun _ => Iff.rfl) h
theorem c_le {P : Bool → Prop} {a b : Int} (h : P (decide (a ≤ b))) : (∃ r, cmpV .LtE (.int a) (.int b) r) ∧ ∀ r, cmpV .LtE (.int a) (.int b) r → P r := c_det (fun _ => Iff.rfl) h
theorem c_gt {P : Bool → Prop} {a b : Int} (h : P (decide (b < a))) : (∃ r, cmpV .Gt (.int a) (.int b) r) ∧ ∀ r, cmpV .Gt (.int a) (.int b) r → P r := c_det (fun _ => Iff.rfl) h
theorem c_ge {P : Bool → Prop} {a b : Int} (h : P (decide (b ≤ a))) : (∃ r, cmpV .GtE (.int a) (.int b) r) ∧ ∀ r, cmpV .GtE (.int a) (.int b) r → P r := c_det (fun _ => Iff.rfl) h
theorem c_eqS {P : Bool → Prop} {a b : Str} (h : P (a == b)) : (∃ r, cmpV .Eq (.str a) (.str b) r) ∧ ∀ r, cmpV .Eq (.str a) (.str b) r → P r := c_det (fun _ => Iff.rfl) h
theorem c_eqB {P : Bool → Prop} {a b : Bool} (h : P (a == b)) : (∃ r, cmpV .Eq (.bool a) (.bool b) r) ∧ ∀ r, cmpV .Eq (.bool a) (.bool b) r → P r := c_det (fun _ => Iff.rfl) h
theorem c_isB {P : Bool → Prop} {a b : Bool} (h : P (a == b)) : (∃ r, cmpV .Is (.bool a) (.bool b) r) ∧ ∀ r, cmpV .Is (.bool a) (.bool b) r → P r := c_det (fun _ => Iff.rfl) h
theorem c_isnB {P : Bool → Prop} {a b : Bool} (h : P (a != b)) : (∃ r, cmpV .IsNot (.bool a) (.bool b) r) ∧ ∀ r, cmpV .IsNot (.bool a) (.bool b) r → P r := c_det (fun _ => Iff.rfl) h
theorem c_isN {P : Bool → Prop} (h : P true) : (∃ r, cmpV .Is .none .none r) ∧ ∀ r, cmpV .Is .none .none r → P r := c_det (fun _ => Iff.rfl) h
theorem c_isI {P : Bool → Prop} {a : Int} (h : P false) : (∃ r, cmpV .Is (.int a) .none r) ∧ ∀ r, cmpV .Is (.int a) .none r → P r := c_det (fun _ => Iff.rfl) h
theorem c_notin {P : Bool → Prop} {y x : Str} (h : P (Builtin.Str.occurrences x y 0 x.length 1).isEmpty) : (∃ r, cmpV .NotIn (.str y) (.str x) r) ∧ ∀ r, cmpV .NotIn (.str y) (.str x) r → P r := c_det (fun _ => Iff.rfl) h
theorem c_eqL {P : Bool → Prop} {a b : List V} (h1 : V.plain 4 (.list a) = true) (h2 : V.plain 4 (.list b) = true) (h : ∀ r : Bool, (r = true ↔ a = b) → P r) : (∃ r, cmpV .Eq (.list a) (.list b) r) ∧ ∀ r, cmpV .Eq (.list a) (.list b) r → P r := by
  refine ⟨?_, fun r hr => h r hr.2.2⟩
  by_cases e : a = b
  · exact ⟨true, h1, h2, by simp [e]⟩
  · exact ⟨false, h1, h2, by simp [e]⟩
theorem c_neL {P : Bool → Prop} {a b : List V} (h1 : V.plain 4 (.list a) = true) (h2 : V.plain 4 (.list b) = true) (h : ∀ r : Bool, (r = true ↔ a ≠ b) → P r) : (∃ r, cmpV .NotEq (.list a) (.list b) r) ∧ ∀ r, cmpV .NotEq (.list a) (.list b) r → P r := by
  refine ⟨?_, fun r hr => h r hr.2.2⟩
  by_cases e : a = b
  · exact ⟨false, h1, h2, by simp [e]⟩
  · exact ⟨true, h1, h2, by simp [e]⟩
theorem i_bool {b : Bool} {P P' : Prop} (h : b = true → P) (h' : b = false → P') : ∃ x, V.bool b = .bool x ∧ (x = true → P) ∧ (x = false → P') := ⟨b, rfl, h, h'⟩
theorem i_true {b : Bool} {P P' : Prop} (hb : b = true) (h : P) : ∃ x, V.bool b = .bool x ∧ (x = true → P) ∧ (x = false → P') := ⟨b, rfl, fun _ => h, fun e => Bool.noConfusion (hb.symm.trans e)⟩
theorem i_false {b : Bool} {P P' : Prop} (hb : b = false) (h : P') : ∃ x, V.bool b = .bool x ∧ (x = true → P) ∧ (x = false → P') := ⟨b, rfl, fun e => Bool.noConfusion (hb.symm.trans e), fun _ => h⟩
theorem i_get {a r : V} {k : V} {P : V → Prop} {o : Option V} (h1 : o = some a) (h2 : idxV a k = some r) (h : P r) : ∃ a r, o = some a ∧ idxV a k = some r ∧ P r := ⟨a, r, h1, h2, h⟩
theorem s_nil (h : R (.next ρ)) : wpSs Sp [] ρ R := h
theorem s_cons {s : CS} {r : List CS} (h : wpS Sp s ρ fun o => match o with
    | .next ρ₁ => wpSs Sp r ρ₁ R
    | o => R o) : wpSs Sp (s :: r) ρ R := h
theorem s_assign {x : Nat} {e : CE} (h : wpE Sp e ρ fun v ρ₁ => R (.next (ρ₁.set x (.fro v)))) : wpS Sp (.assign x e) ρ R := h
theorem s_ownList {x : Nat} {es : List CE} (h : wpEs Sp es ρ fun vs ρ₁ => R (.next (ρ₁.set x (.own vs)))) : wpS Sp (.ownList x es) ρ R := h
theorem s_ownCat {x y : Nat} {e : CE} {s : Slot} (hy : ρ[y]? = some s) (hs : slotV s ≠ none) (h : wpE Sp e ρ fun v ρ₁ => ∃ l l', slotV (ρ₁.getD y .undef) = some (.list l) ∧ v = .list l' ∧ l.length + l'.length ≤ 1048576 ∧ R (.next (ρ₁.set x (.own (l ++ l'))))) : wpS Sp (.ownCat x y e) ρ R := by
  exact ⟨(getD_some hy).symm ▸ hs, h⟩
theorem s_append {x : Nat} {e : CE} {l : List V} (hx : ρ[x]? = some (.own l)) (h : wpE Sp e ρ fun v ρ₁ => match ρ₁.getD x .undef with
    | .own l => l.length ≤ 1048576 ∧ R (.next (ρ₁.set x (.own (l ++ [v]))))
    | _ => False) : wpS Sp (.append x e) ρ R := by
  exact ⟨⟨l, getD_some hx⟩, h⟩
theorem s_setItem {x : Nat} {i e : CE} (h : wpE Sp e ρ fun v ρ₁ => slotV (ρ₁.getD x .undef) ≠ none ∧ wpE Sp i ρ₁ fun vi ρ₂ => match ρ₂.getD x .undef with
    | .own l => ∃ k : Int, vi = .int k ∧ 0 ≤ k ∧ k < l.length ∧ l.length ≤ 1048576 ∧ R (.next (ρ₂.set x (.own (l.set k.toNat v))))
    | _ => False) : wpS Sp (.setItem x i e) ρ R := h
theorem s_aug {x : Nat} {op : Operator} {e : CE} {i : Int} (hx : ρ[x]? = some (.fro (.int i))) (h : wpE Sp e ρ fun v ρ₁ => ∃ r, binV op (.int i) v = some r ∧ R (.next (ρ₁.set x (.fro r)))) : wpS Sp (.aug x op e) ρ R := by
  exact ⟨i, getD_some hx, h⟩
theorem s_ite {t : CE} {a b : List CS} (h : wpE Sp t ρ fun v ρ₁ => ∃ x, v = .bool x ∧ (x = true → wpSs Sp a ρ₁ R) ∧ (x = false → wpSs Sp b ρ₁ R)) : wpS Sp (.ite t a b) ρ R := h
theorem s_ret {e : CE} (h : wpE Sp e ρ fun v _ => R (.ret v)) : wpS Sp (.ret e) ρ R := h
theorem s_brk (h : R (.brk ρ)) : wpS Sp .brk ρ R := h
theorem s_unpack {x y : Nat} {e : CE} (h : wpE Sp e ρ fun v ρ₁ => bindP x y v ρ₁ fun ρ₂ => R (.next ρ₂)) : wpS Sp (.unpack x y e) ρ R := h
theorem s_for1 {x : Nat} {it : CE} {b : List CS} (h : wpE Sp it ρ fun vi ρ₁ => ∃ items, iterV vi = some items ∧ forL (bind1 x) (fun ρ k => wpSs Sp b ρ k) items ρ₁ R) : wpS Sp (.for1 x it b) ρ R := h
theorem f_nil {bd : V → List Slot → (List Slot → Prop) → Prop} {g : List Slot → (Out → Prop) → Prop} (h : R (.next ρ)) : forL bd g [] ρ R := h
theorem f_cons1 {x : Nat} {b : List CS} {v : V} {vs : List V} (h : wpSs Sp b (ρ.set x (.fro v)) (loopOut (fun ρ₂ => forL (bind1 x) (fun ρ k => wpSs Sp b ρ k) vs ρ₂ R) R)) : forL (bind1 x) (fun ρ k => wpSs Sp b ρ k) (v :: vs) ρ R := h
theorem l_next {k : List Slot → Prop} (h : k ρ) : loopOut k R (.next ρ) := h
theorem l_brk {k : List Slot → Prop} (h : R (.next ρ)) : loopOut k R (.brk ρ) := h
theorem l_ret {k : List Slot → Prop} {v : V} (h : R (.ret v)) : loopOut k R (.ret v) := h
theorem s_whil {t : CE} {b : List CS} (n : Nat) (h : whileN (fun ρ k => wpE Sp t ρ fun v ρ₁ => ∃ x, v = .bool x ∧ k x ρ₁) (fun ρ k => wpSs Sp b ρ k) n ρ R) : wpS Sp (.whil t b) ρ R := ⟨n, h⟩
theorem w_step {t : CE} {b : List CS} {n : Nat} (h : wpE Sp t ρ fun v ρ₁ => ∃ x, v = .bool x ∧ (x = false → R (.next ρ₁)) ∧ (x = true → wpSs Sp b ρ₁ (loopOut (fun ρ₂ => whileN (fun ρ k => wpE Sp t ρ fun v ρ₁ => ∃ x, v = .bool x ∧ k x ρ₁) (fun ρ k => wpSs Sp b ρ k) n ρ₂ R) R))) : whileN (fun ρ k => wpE Sp t ρ fun v ρ₁ => ∃ x, v = .bool x ∧ k x ρ₁) (fun ρ k => wpSs Sp b ρ k) (n + 1) ρ R := h
theorem iw_bool {b : Bool} {P P' : Prop} (h : b = false → P) (h' : b = true → P') : ∃ x, V.bool b = .bool x ∧ (x = false → P) ∧ (x = true → P') := ⟨b, rfl, h, h'⟩
theorem iw_false {b : Bool} {P P' : Prop} (hb : b = false) (h : P) : ∃ x, V.bool b = .bool x ∧ (x = false → P) ∧ (x = true → P') := ⟨b, rfl, fun _ => h, fun e => Bool.noConfusion (hb.symm.trans e)⟩
theorem iw_true {b : Bool} {P P' : Prop} (hb : b = true) (h : P') : ∃ x, V.bool b = .bool x ∧ (x = false → P) ∧ (x = true → P') := ⟨b, rfl, fun e => Bool.noConfusion (hb.symm.trans e), fun _ => h⟩
theorem o_and1 {x : Bool} {P : Prop} {P' : Prop} (hx : x = true) (h : P') : ∃ y, V.bool x = .bool y ∧ ((y = (BoolOp.And == .Or)) → P) ∧ ((y ≠ (BoolOp.And == .Or)) → P') := ⟨x, rfl, fun e => absurd (hx.symm.trans e) (by decide), fun _ => h⟩
theorem o_and0 {x : Bool} {P : Bool → Prop} {P' : Prop} (hx : x = false) (h : P false) : ∃ y, V.bool x = .bool y ∧ ((y = (BoolOp.And == .Or)) → P y) ∧ ((y ≠ (BoolOp.And == .Or)) → P') := ⟨x, rfl, fun _ => hx ▸ h, fun e => absurd (hx.trans (by decide)) e⟩
theorem o_or1 {x : Bool} {P : Bool → Prop} {P' : Prop} (hx : x = true) (h : P true) : ∃ y, V.bool x = .bool y ∧ ((y = (BoolOp.Or == .Or)) → P y) ∧ ((y ≠ (BoolOp.Or == .Or)) → P') := ⟨x, rfl, fun _ => hx ▸ h, fun e => absurd (hx.trans (by decide)) e⟩
theorem o_or0 {x : Bool} {P : Prop} {P' : Prop} (hx : x = false) (h : P') : ∃ y, V.bool x = .bool y ∧ ((y = (BoolOp.Or == .Or)) → P) ∧ ((y ≠ (BoolOp.Or == .Or)) → P') := ⟨x, rfl, fun e => absurd (hx.symm.trans e) (by decide), fun _ => h⟩
theorem o_last {y : Bool} {P : Bool → Prop} (h : P y) : ∃ z, V.bool y = .bool z ∧ P z := ⟨y, rfl, h⟩
theorem x_get {o : Option V} {a r k : V} {P : V → Prop} (h1 : o = some a) (h2 : idxV a k = some r) (h : P r) : ∃ a r, o = some a ∧ idxV a k = some r ∧ P r := ⟨a, r, h1, h2, h⟩
theorem n_neg {i : Int} {P : Int → Prop} (h : P (-i)) : ∃ j, V.int i = .int j ∧ P (-j) := ⟨i, rfl, h⟩
theorem e_range {a b c : CE} (h : wpE Sp a ρ fun va ρ₁ => wpE Sp b ρ₁ fun vb ρ₂ => wpE Sp c ρ₂ fun vc ρ₃ => ∃ x y z, va = .int x ∧ vb = .int y ∧ vc = .int z ∧ (0 < z ∧ z < 1073741824 ∧ x.natAbs < 1073741824 ∧ y.natAbs < 1073741824) ∧ Q (.list (rangeV x y z)) ρ₃) : wpE Sp (.range a b c) ρ Q := h
theorem e_mcall {a : CE} {m : Nat} {args : List CE} (h : wpE Sp a ρ fun va ρ₁ => (∃ n nt c b s, va = .ws n nt c b s) ∧ wpEs Sp args ρ₁ fun vs ρ₂ => ∃ r, Sp m (va :: vs) r ∧ Q r ρ₂) : wpE Sp (.mcall a m args) ρ Q := h
theorem e_sum {a : CE} (h : wpE Sp a ρ fun va ρ₁ => ∃ l ns, va = .list l ∧ numsV l = some ns ∧ l.length ≤ 1048576 ∧ Q (.int ns.sum) ρ₁) : wpE Sp (.sum a) ρ Q := h
theorem e_sorted {a : CE} (h : wpE Sp a ρ fun va ρ₁ => ∃ ls : List (List Int), va = .list (ls.map fun x => .list (intsV x)) ∧ 0 < ls.length ∧ ls.length < 64 ∧ (∀ x ∈ ls, x.length = 4) ∧ ∃ rs, pureSort ls = some rs ∧ Q (.list (rs.map fun x => .list (intsV x))) ρ₁) : wpE Sp (.sorted a) ρ Q := h
theorem e_join {a b : CE} (h : wpE Sp a ρ fun va ρ₁ => ∃ x, va = .str x ∧ wpE Sp b ρ₁ fun vb ρ₂ => ∃ l ss, vb = .list l ∧ strsV l = some ss ∧ (ss.map (·.length)).sum + ss.length * x.length ≤ 1048576 ∧ Q (.str (Txt.join x ss)) ρ₂) : wpE Sp (.join a b) ρ Q := h
theorem e_split {a b : CE} (h : wpE Sp a ρ fun va ρ₁ => ∃ x, va = .str x ∧ wpE Sp b ρ₁ fun vb ρ₂ => ∃ y, vb = .str y ∧ y.length = 1 ∧ x.length ≤ 1048576 ∧ Q (.list ((Txt.split x y).map .str)) ρ₂) : wpE Sp (.split a b) ρ Q := h
theorem e_pop {x : Nat} {l : List V} {v : V} (hx : ρ[x]? = some (.own l)) (hv : l.getLast? = some v) (hl : l.length ≤ 1048576) (h : Q v (ρ.set x (.own l.dropLast))) : wpE Sp (.pop x) ρ Q := by
  show (match ρ.getD x .undef with | .own l => ∃ v, l.getLast? = some v ∧ l.length ≤ 1048576 ∧ Q v (ρ.set x (.own l.dropLast)) | _ => False)
  rw [getD_some hx]; exact ⟨v, hv, hl, h⟩
theorem e_ne0 {x : Nat} {s : Slot} {l : List V} (hx : ρ[x]? = some s) (hs : slotV s = some (.list l)) (hp : V.plain 4 (.list l) = true) (h : Q (.bool (!l.isEmpty)) ρ) : wpE Sp (.ne0 x) ρ Q := by
  exact ⟨l, (getD_some hx).symm ▸ hs, hp, h⟩
theorem e_comp {elt it : CE} {two : Bool} {cond : Option CE} (h : wpE Sp it ρ fun vi ρ₁ => ∃ items, iterV vi = some items ∧ compL (fun (x : V) (R : List V → Prop) =>
      bindN two x fun bs => wpC Sp cond (bs ++ frozen ρ₁) fun b => (b = true → wpE Sp elt (bs ++ frozen ρ₁) fun y _ => R [y]) ∧ (b = false → R [])) items [] fun r => Q (.list r) ρ₁) : wpE Sp (.comp elt two it cond) ρ Q := h
theorem e_zip {a b : CE} (h : wpE Sp a ρ fun va ρ₁ => wpE Sp b ρ₁ fun vb ρ₂ => ∃ x y, va = .list x ∧ vb = .list y ∧ Q (.list ((x.zip y).map fun p => .tup [p.1, p.2])) ρ₂) : wpE Sp (.zip a b) ρ Q := h
theorem e_callv {f x : Nat} {b : CE} {s : Slot} (hx : ρ[x]? = some s) (hs : slotV s ≠ none) (h : wpE Sp b ρ fun vb ρ₁ => ∃ a i, slotV (ρ₁.getD x .undef) = some a ∧ Sp f [a, vb] (.int i) ∧ Q (.int i) ρ₁) : wpE Sp (.callv f x b) ρ Q := by
  exact ⟨(getD_some hx).symm ▸ hs, h⟩
theorem e_mem {no : Bool} {a : CE} {x : Nat} (h : wpE Sp a ρ fun va ρ₁ => ∃ l, slotV (ρ₁.getD x .undef) = some (.list l) ∧ V.plain 4 va = true ∧ V.plain 4 (.list l) = true ∧ l.length ≤ 1048576 ∧ ∀ r : Bool, (r = true ↔ va ∈ l) → Q (.bool (r != no)) ρ₁) : wpE Sp (.mem no a x) ρ Q := h
theorem wc_none {P : Bool → Prop} (h : P true) : wpC Sp none ρ P := h
theorem wc_some {e : CE} {P : Bool → Prop} (h : wpE Sp e ρ fun v _ => ∃ b, v = .bool b ∧ P b) : wpC Sp (some e) ρ P := h
theorem s_ext {x : Nat} {e : CE} {l : List V} (hx : ρ[x]? = some (.own l)) (h : wpE Sp e ρ fun v ρ₁ => ∃ l', v = .list l' ∧ match ρ₁.getD x .undef with
    | .own l => l.length + l'.length ≤ 1048576 ∧ R (.next (ρ₁.set x (.own (l ++ l'))))
    | _ => False) : wpS Sp (.ext x e) ρ R := by
  exact ⟨⟨l, getD_some hx⟩, h⟩
theorem s_for2 {x y : Nat} {it : CE} {b : List CS} (h : wpE Sp it ρ fun vi ρ₁ => ∃ items, iterV vi = some items ∧ forL (bindP x y) (fun ρ k => wpSs Sp b ρ k) items ρ₁ R) : wpS Sp (.for2 x y it b) ρ R := h
theorem s_forEsc {x y : Nat} {e : CE} {b : List CS} (h : wpE Sp e ρ fun v ρ₁ => ∃ z : Str, v = .str z ∧ z.length ≤ 1048576 ∧ forL (bindP x y) (fun ρ k => wpSs Sp b ρ k) (escV z) ρ₁ R) : wpS Sp (.forEsc x y e b) ρ R := h
theorem f_cons2 {x y : Nat} {b : List CS} {u v : V} {vs : List V} (h : wpSs Sp b ((ρ.set x (.fro u)).set y (.fro v)) (loopOut (fun ρ₂ => forL (bindP x y) (fun ρ k => wpSs Sp b ρ k) vs ρ₂ R) R)) : forL (bindP x y) (fun ρ k => wpSs Sp b ρ k) (.tup [u, v] :: vs) ρ R := h
end
end Mine

local macro_rules | `(tactic| walk_at "VC") => `(tactic| repeat (first
  | (with_reducible first
    | apply Mine.s_nil
    | apply Mine.s_cons
    | apply Mine.s_assign
    | apply Mine.s_ownList
    | apply Mine.s_ite
    | apply Mine.s_ret
    | apply Mine.s_brk
    | apply Mine.s_unpack
    | apply Mine.s_for1
    | apply Mine.s_setItem
    | apply Mine.e_none
    | apply Mine.e_bool
    | apply Mine.e_int
    | apply Mine.e_str
    | apply Mine.e_bin
    | apply Mine.e_neg
    | apply Mine.e_cmp
    | apply Mine.e_bop
    | apply Mine.e_ite
    | apply Mine.e_lst
    | apply Mine.e_tup
    | apply Mine.es_nil
    | apply Mine.es_cons
    | apply Mine.e_sub
    | apply Mine.e_slc
    | apply Mine.o_none
    | apply Mine.o_some
    | apply Mine.e_len
    | apply Mine.e_call
    | apply Mine.e_max
    | apply Mine.e_attr
    | apply Mine.e_range
    | apply Mine.e_mcall
    | apply Mine.e_sum
    | apply Mine.e_sorted
    | apply Mine.e_join
    | apply Mine.e_split
    | apply Mine.e_comp
    | apply Mine.e_zip
    | apply Mine.e_mem
    | apply Mine.s_for2
    | apply Mine.s_forEsc
    | apply Mine.wc_none
    | apply Mine.wc_some
    | apply Mine.b_add
    | apply Mine.b_sub
    | apply Mine.c_eq
    | apply Mine.c_ne
    | apply Mine.c_lt
    | apply Mine.c_le
    | apply Mine.c_gt
    | apply Mine.c_ge
    | apply Mine.c_eqS
    | apply Mine.c_eqB
    | apply Mine.c_isB
    | apply Mine.c_isnB
    | apply Mine.c_isN
    | apply Mine.c_isI
    | apply Mine.c_notin
    | apply Mine.f_nil
    | apply Mine.f_cons1
    | apply Mine.f_cons2
    | apply Mine.l_next
    | apply Mine.l_brk
    | apply Mine.l_ret)
  | (with_reducible refine Mine.e_fro rfl ?_)
  | (refine Mine.e_fro (by rfl) ?_)
  | (refine Mine.e_own (by rfl) ?_)
  | (refine Mine.e_subv (by rfl) (by simp [Mine.slotV]) ?_)
  | (refine Mine.e_lenv (by rfl) (by rfl) (by rfl) ?_)
  | (refine Mine.e_slcv (by rfl) (by simp [Mine.slotV]) ?_)
  | (refine Mine.s_append (by rfl) ?_)
  | (refine Mine.s_ownCat (by rfl) (by simp [Mine.slotV]) ?_)
  | (refine Mine.s_aug (by rfl) ?_)
  | (refine And.intro (by first | decide | (simp only [List.length_append, List.length_cons, List.length_nil, List.length_map] <;> omega)) ?_)
  | (dsimp only [List.set])))

-- part 44
namespace Mine
noncomputable def vs_init : List Str := ["self", "ws", "S", "T", "count", "b", "n", "nt", "ch"]
noncomputable def co_init_a : List CS := [.ownList 4 [], .chain [5, 6, 7] (.int 0)]
noncomputable def co_init_b : List CS := [.ite (.cmp .Eq (.var 8) (.var 2)) [.assign 6 (.bin .Add (.var 6) (.int 1)), .assign 5 (.bin .Add (.var 5) (.int 1))]
  [.ite (.cmp .Eq (.var 8) (.var 3)) [.assign 6 (.bin .Add (.var 6) (.int 1)), .assign 7 (.bin .Add (.var 7) (.int 1)),
    .ite (.cmp .GtE (.var 5) (.lenv 4)) [.ownCat 4 4 (.bin .Mult (.lst [.int 0]) (.bin .Add (.bin .Sub (.var 5) (.lenv 4)) (.int 1)))] [],
    .setItem 4 (.var 5) (.bin .Add (.subv 4 (.var 5)) (.int 1)), .assign 5 (.int 0)] [.brk]]]
noncomputable def wsLoop : List Nat → Nat → Nat → Nat → List Int → Nat × Nat × Nat × List Int
  | [], n, nt, b, cnt => (n, nt, b, cnt)
  | c :: r, n, nt, b, cnt => if c = 32 then wsLoop r (n + 1) nt (b + 1) cnt else if c = 9 then
      let cnt' := if cnt.length ≤ b then cnt ++ List.replicate (b - cnt.length + 1) 0 else cnt
      wsLoop r (n + 1) (nt + 1) 0 (cnt'.set b (cnt'.getD b 0 + 1)) else (n, nt, b, cnt)
noncomputable abbrev initρ (x : Addr) (z : Str) (n nt b : Nat) (cnt : List Int) (ch : Slot) : List Slot := [.fro (.ref x), .fro (.str z), .fro (.str " "), .fro (.str "\t"), .own (intsV cnt), .fro (.int b), .fro (.int n), .fro (.int nt), ch]
theorem sign_eq {c d : Nat} : ((⟨#[c]⟩ : Str) == ⟨#[d]⟩) = decide (c = d) := by
  by_cases h : c = d
  · subst h; simp
  · rw [decide_eq_false h, beq_eq_false_iff_ne]
    intro q
    have : (#[c] : Array Nat) = #[d] := congrArg Str.cps q
    simp at this
    exact h this
theorem sp_eq : Str.ofString " " = ⟨#[32]⟩ := by decide
theorem tb_eq : Str.ofString "\t" = ⟨#[9]⟩ := by decide
theorem intsV_get {cnt : List Int} {b : Nat} (h : b < cnt.length) : idxV (.list (intsV cnt)) (.int b) = if cnt.length ≤ 1048576 then some (.int (cnt.getD b 0)) else none := by
  have hl : (intsV cnt).length = cnt.length := by simp [intsV]
  show (if (intsV cnt).length ≤ 1048576 then (seqIndex? (b : Int) (intsV cnt).length).bind ((intsV cnt)[·]?) else none) = _
  rw [hl]
  split
  · have : seqIndex? (b : Int) cnt.length = some b := by
      unfold seqIndex?
      simp [h]
      omega
    rw [this]
    show (intsV cnt)[b]? = _
    unfold intsV
    rw [List.getElem?_map, List.getElem?_eq_getElem h, List.getD_eq_getElem?_getD, List.getElem?_eq_getElem h]; rfl
  · rfl
theorem vc_step (Sp : Nat → List V → V → Prop) (x : Addr) (z : Str) (R : Out → Prop) (c n nt b : Nat) (cnt : List Int) (hb : b ≤ 1000) (hc : cnt.length ≤ 1001)
    (h1 : c = 32 → R (.next (initρ x z (n + 1) nt (b + 1) cnt (.fro (.str ⟨#[c]⟩)))))
    (h2 : c ≠ 32 → c = 9 → ∀ cnt', cnt' = (if cnt.length ≤ b then cnt ++ List.replicate (b - cnt.length + 1) 0 else cnt) → R (.next (initρ x z (n + 1) (nt + 1) 0 (cnt'.set b (cnt'.getD b 0 + 1)) (.fro (.str ⟨#[c]⟩)))))
    (h3 : c ≠ 32 → c ≠ 9 → R (.brk (initρ x z n nt b cnt (.fro (.str ⟨#[c]⟩))))) : wpSs Sp co_init_b (initρ x z n nt b cnt (.fro (.str ⟨#[c]⟩))) R := by
  unfold co_init_b
  walk_at "VC"
  rw [sp_eq, sign_eq]
  refine i_bool (fun e => ?_) (fun e => ?_)
  · walk_at "VC"
    exact h1 (of_decide_eq_true e)
  · have ne32 := of_decide_eq_false e
    walk_at "VC"
    rw [tb_eq, sign_eq]
    refine i_bool (fun e => ?_) (fun e => ?_)
    · have e9 := of_decide_eq_true e
      walk_at "VC"
      have hln : ∀ l : List Int, l.length ≤ 1048576 → lenV (.list (intsV l)) = some (l.length : Int) := fun l h => by
        show (if (intsV l).length ≤ 1048576 then some ((intsV l).length : Int) else none) = _
        simp [intsV, h]
      refine e_lenv rfl rfl (hln cnt (by omega)) ?_
      walk_at "VC"
      have fin : ∀ (cnt' : List Int) (R' : Out → Prop), cnt' = (if cnt.length ≤ b then cnt ++ List.replicate (b - cnt.length + 1) 0 else cnt) → (∀ ρ, R (.next ρ) → R' (.next ρ)) → wpSs Sp [.setItem 4 (.var 5) (.bin .Add (.subv 4 (.var 5)) (.int 1)), .assign 5 (.int 0)] (initρ x z (n + 1) (nt + 1) b cnt' (.fro (.str ⟨#[c]⟩))) R' := fun cnt' R' hcnt hR' => by
        have hlen : b < cnt'.length := by
          rw [hcnt]; split
          · simp; omega
          · omega
        have hlen2 : cnt'.length ≤ 2002 := by
          rw [hcnt]; split
          · simp; omega
          · omega
        walk_at "VC"
        refine ⟨_, _, rfl, (intsV_get hlen).trans (if_pos (by omega)), ?_⟩
        walk_at "VC"
        refine ⟨by simp [slotV], ?_⟩
        walk_at "VC"
        refine ⟨b, rfl, by omega, by simp [intsV]; omega, by simp [intsV]; omega, ?_⟩
        walk_at "VC"
        have := h2 ne32 e9 cnt' hcnt
        have e : (intsV cnt').set b (.int (cnt'.getD b 0 + 1)) = intsV (cnt'.set b (cnt'.getD b 0 + 1)) := by simp [intsV, List.map_set]
        rw [Int.toNat_natCast, e]
        exact hR' _ this
      refine i_bool (fun e => ?_) (fun e => ?_)
      · have e := of_decide_eq_true e
        have hbl : cnt.length ≤ b := by omega
        walk_at "VC"
        refine e_lenv rfl rfl (hln cnt (by omega)) ?_
        walk_at "VC"
        refine b_mulL ⟨by simp, by omega, by omega⟩ ?_
        refine ⟨_, _, rfl, rfl, ?_, ?_⟩
        · simp [intsV]; omega
        · have e2 : intsV cnt ++ (List.replicate ((b : Int) - cnt.length + 1).toNat [V.int 0]).flatten = intsV (cnt ++ List.replicate (b - cnt.length + 1) 0) := by
            have : ((b : Int) - cnt.length + 1).toNat = b - cnt.length + 1 := by omega
            rw [this]
            simp [intsV, List.flatten_replicate_singleton]
          rw [e2]
          exact fin _ _ (if_pos hbl).symm (fun _ h => h)
      · have e := of_decide_eq_false e
        exact fin _ _ (if_neg (by omega)).symm (fun _ h => h)
    · walk_at "VC"
      exact h3 ne32 (of_decide_eq_false e)
theorem vc_init (Sp : Nat → List V → V → Prop) (x : Addr) (z : Str) (Q : Out → Prop) : ∀ (l : List Nat) (n nt b : Nat) (cnt : List Int) (ch : Slot), b + l.length ≤ 1000 → cnt.length ≤ 1001 →
    (∀ ch', Q (.next (initρ x z (wsLoop l n nt b cnt).1 (wsLoop l n nt b cnt).2.1 (wsLoop l n nt b cnt).2.2.1 (wsLoop l n nt b cnt).2.2.2 ch'))) → forL (bind1 8) (fun ρ k => wpSs Sp co_init_b ρ k) (l.map fun c => .str ⟨#[c]⟩) (initρ x z n nt b cnt ch) Q
  | [], n, nt, b, cnt, ch, _, _, h => by
    unfold forL
    simpa [wsLoop] using h ch
  | c :: r, n, nt, b, cnt, ch, hb, hc, h => by
    simp only [List.length_cons] at hb
    show wpSs Sp co_init_b (initρ x z n nt b cnt (.fro (.str ⟨#[c]⟩))) _
    refine vc_step Sp x z _ c n nt b cnt (by omega) hc (fun e => ?_) (fun e1 e2 cnt' hcnt => ?_) (fun e1 e2 => ?_)
    · refine vc_init Sp x z Q r (n + 1) nt (b + 1) cnt _ (by omega) hc fun ch' => ?_
      have := h ch'
      rw [show wsLoop (c :: r) n nt b cnt = wsLoop r (n + 1) nt (b + 1) cnt by rw [wsLoop, if_pos e]] at this
      exact this
    · have hl9 : (cnt'.set b (cnt'.getD b 0 + 1)).length ≤ 1001 := by
        rw [List.length_set, hcnt]
        split
        · simp; omega
        · omega
      refine vc_init Sp x z Q r (n + 1) (nt + 1) 0 _ _ (by omega) hl9 fun ch' => ?_
      have := h ch'
      rw [show wsLoop (c :: r) n nt b cnt = wsLoop r (n + 1) (nt + 1) 0 (cnt'.set b (cnt'.getD b 0 + 1)) by rw [wsLoop, if_neg e1, if_pos e2, hcnt]] at this
      exact this
    · have := h (.fro (.str ⟨#[c]⟩))
      rw [show wsLoop (c :: r) n nt b cnt = (n, nt, b, cnt) by rw [wsLoop, if_neg e1, if_neg e2]] at this
      exact this
end Mine

-- part 45
namespace Mine
inductive InitParts : Prop
  | mk (b2 b3 : Stmt) (fb : List Stmt) (a7 b7 l8 r8 : Expr) (k7 : Nat) (p1 p2 p3 p4 p5 p6 p7 p8 p9 p10 p11 p12 p13 p14 p15 p16 p17 p18 p19 p20 p21 p22 p23 p24 p25 p26 p27 p28 p29 q5 q6 q7 q8 : Pos)
    (hbody : (meDf "__init__").body = [.Assign [.Attribute (.Name "self" p1) "raw" p2] (.Name "ws" p3) p4,
      .Assign [.Tuple [.Name "S" p5, .Name "T" p6] 0 p7] (.Tuple [.Attribute (.Name "Whitespace" p8) "S" p9, .Attribute (.Name "Whitespace" p10) "T" p11] 0 p12) p13, b2, b3,
      .For (.Name "ch" p14) (.Attribute (.Name "self" p15) "raw" p16) fb [] p17,
      .Assign [.Attribute (.Name "self" p18) "n" p19] (.Name "n" q5) p20, .Assign [.Attribute (.Name "self" p21) "nt" p22] (.Name "nt" q6) p23, .Assign [.Attribute (.Name "self" p24) "norm" p25] (.Tuple [a7, b7] k7 q7) p26, .Assign [.Attribute (.Name "self" p27) "is_simple" p28] (.Compare l8 [.LtE] [r8] q8) p29])
    (hline : p5.line = p6.line) (hca : chkSs glo (meDf "__init__").scope vs_init co_init_a [b2, b3] = true) (hcb : chkSs glo (meDf "__init__").scope vs_init co_init_b fb = true) (hc5 : chkE glo (meDf "__init__").scope vs_init false (.var 6) (.Name "n" q5) = true) (hc6 : chkE glo (meDf "__init__").scope vs_init false (.var 7) (.Name "nt" q6) = true) (hc7 : chkE glo (meDf "__init__").scope vs_init false (.tup [.tuple (.var 4), .var 5]) (.Tuple [a7, b7] k7 q7) = true) (hc8 : chkE glo (meDf "__init__").scope vs_init false (.cmp .LtE (.lenv 4) (.int 1)) (.Compare l8 [.LtE] [r8] q8) = true) : InitParts
theorem init_parts : InitParts := by
  refine .mk _ _ _ _ _ _ _ _ _ _ _ _ _ _ _ _ _ _ _ _ _ _ _ _ _ _ _ _ _ _ _ _ _ _ _ _ _ _ _ _ _ rfl ?_ ?_ ?_ ?_ ?_ ?_ ?_ <;> decide +kernel
theorem init_sh (pm cd doc : Value) : FnSh0 (mdOf "__init__" pm cd doc) (meDf "__init__").body ["self", "ws"] ["S", "T", "count", "b", "n", "nt", "ch"] := fnSh0_of rfl rfl (by decide +kernel) fun vals h => vals2 h fun _ _ => rfl
end Mine

-- part 46
namespace Mine
section
variable {prog : Program} {w : World} {B : Heap} {C N : Addr} {mN : Str → Option Value} {fI fL fD fS : Addr} {mg mb : Str → Option Value} {n : Nat} {Sp : Nat → List V → V → Prop}
variable {cx : Cx} {K g₀ g : PH} {s₀ s : Shared} {val : Nat → Value} {ρ : List Slot} {A : Around} {E : Value → Shared → Prop} {sc : Scope}
structure Mk (cx : Cx) (K g₀ : PH) (s₀ : Shared) (x dx C : Addr) (m : Str → Option Value) (val : Nat → Value) (ρ : List Slot) (g : PH) (s : Shared) : Prop where
  I : Inv cx (withK K [x, dx] s.heap) g₀ s₀ val ρ g s
  O : ObjAt x dx C m s.heap
theorem Mk.next {x dx : Addr} {m : Str → Option Value} {val' : Nat → Value} {ρ' : List Slot} {g' : PH} {s' : Shared} (M : Mk cx K g₀ s₀ x dx C m val ρ g s) (J : Inv cx (withK K [x, dx] s.heap) g₀ s₀ val' ρ' g' s') : Mk cx K g₀ s₀ x dx C m val' ρ' g' s' := by
  have wk : ∀ b ∈ [x, dx], ∀ o, s.heap.get? b = some o → s'.heap.get? b = some o := fun b hb o e => J.keep b o ((withK_in hb).trans e)
  exact ⟨(withK_same (K := K) wk M.O.live).symm ▸ J, M.O.at' wk⟩
theorem Mk.at {x dx : Addr} {m : Str → Option Value} (_M : Mk cx K g₀ s₀ x dx C m val ρ g s) (at_ : At B C n sc cx K A) (hK : ∀ b ∈ [x, dx], K b = none) : At B C n sc cx (withK K [x, dx] s.heap) A := at_.addK hK
theorem Mk.put {x dx : Addr} {m : Str → Option Value} {name : Str} {v : Value} {Q : Unit → Shared → Prop} (M : Mk cx K g₀ s₀ x dx C m val ρ g s) (W : WsAt B C N mN fI fL fD fS) (at_ : At B C n sc cx K A) (hBx : B.get? x = none) (hK : ∀ b ∈ [x, dx], K b = none) (h0 : ∀ b ∈ [x, dx], g₀ b = none) (hn : name ∈ wsNames) (hB' : typeLookup (.type "object") name = pure none) (hw : Within m wsNames)
    (hq : ∀ s', Mk cx K g₀ s₀ x dx C (fun y => if y = name then some v else m y) val ρ g s' → Q () s') : wpAny (model prog w) A (setAttr (.ref x) name v) Q E s :=
  put_attr W (M.I.sub (M.at at_ hK)) hBx at_.lives M.I M.O.live hK h0 M.O hn hB' hw fun s' J O => hq s' ⟨J, O⟩
theorem Within.put {m : Str → Option Value} {name : Str} {v : Value} (h : Within m wsNames) (hn : name ∈ wsNames) : Within (fun y => if y = name then some v else m y) wsNames := fun y hy => by
  by_cases e : y = name
  · rw [e]; exact hn
  · have hy : (if y = name then some v else m y) ≠ none := hy
    rw [if_neg e] at hy; exact h y hy
theorem Mk.set {x dx : Addr} {m : Str → Option Value} {name self : Str} {c : CE} {e : Expr} {p1 p2 p3 : Pos} {Q : Flow → Shared → Prop} {Qe : V → List Slot → Prop} (hE : SndE prog w B C n Sp c) (W : WsAt B C N mN fI fL fD fS) (at_ : At B C n sc cx K A) (hBx : B.get? x = none) (hK : ∀ b ∈ [x, dx], K b = none) (h0 : ∀ b ∈ [x, dx], g₀ b = none)
    (M : Mk cx K g₀ s₀ x dx C m val ρ g s) (hn : name ∈ wsNames) (hB' : typeLookup (.type "object") name = pure none) (hw : Within m wsNames) (hc : chkE glo sc cx.vars false c e = true) (hs : isVar sc cx.vars 0 self = true) (hsw : swapsWith e (some (.Attribute (.Name self p1) name p2)) p3.line cx.env = pure false) (hv : val 0 = .ref x)
    (hwp : wpE Sp c ρ fun v ρ' => slotV (ρ'.getD 0 .undef) ≠ none ∧ Qe v ρ')
    (hq : ∀ v d ρ' g' s', Qe d ρ' → PH.le g g' → Rep cx.C g' v d → Mk cx K g₀ s₀ x dx C (fun y => if y = name then some v else m y) val ρ' g' s' → Q .next s') :
    wpAny (model prog w) A (exec (.Assign [.Attribute (.Name self p1) name p2] e p3) cx.env) Q E s := by
  have at' := M.at at_ hK
  refine plainObj_wpAny_Assign_Attribute (hE.then hc at' M.I hwp fun d ρ₁ g₁ v s₁ hq₁ I₁ l₁ r₁ => ?_) hsw
  have M₁ := M.next I₁
  obtain ⟨hne, hq₁⟩ := hq₁
  obtain ⟨d', hd'⟩ := some_of_ne hne
  refine name_var at' I₁ hs hd' ?_
  rw [hv]
  exact M₁.put W at_ hBx hK h0 hn hB' hw fun s' M' => hq v d ρ₁ g₁ s' hq₁ l₁ r₁ M'
noncomputable def swapF (b k1 k2 l1 l2 : Bool) : Sem (Option (List Str)) := if b = true then pure none else
  let names := [if (k1 && l1) = true then some (Str.ofString "S") else none, if (k2 && l2) = true then some (Str.ofString "T") else none].filterMap id
  if (names.length != 2 || names.eraseDups.length != names.length) = true then pure none else pure (some names)
theorem swap_st {p5 p6 p7 p9 p11 : Pos} {o1 o2 : Expr} {a1 a2 : Str} {pv : Pos} {env : Env} (hl : p5.line = p6.line) (h1 : env.kindOf "S" = some .local) (h2 : env.kindOf "T" = some .local) (hk : env.blockKind = .function) :
    swappedStores [.Tuple [.Name "S" p5, .Name "T" p6] 0 p7] (.Tuple [.Attribute o1 a1 p9, .Attribute o2 a2 p11] 0 pv) env = pure (some [Str.ofString "S", Str.ofString "T"]) := by
  have e : swappedStores [.Tuple [.Name "S" p5, .Name "T" p6] 0 p7] (.Tuple [.Attribute o1 a1 p9, .Attribute o2 a2 p11] 0 pv) env = swapF (env.blockKind != .function) (env.kindOf "S" == some .local) (env.kindOf "T" == some .local) (p5.line == p5.line) (p6.line == p5.line) := rfl
  rw [e, h1, h2, hk, hl, beq_self_eq_true, beq_self_eq_true]
  rfl
end
end Mine

-- part 47
namespace Mine
noncomputable def wsOf (z : Str) : V := .ws (wsLoop z.cps.toList 0 0 0 []).1 (wsLoop z.cps.toList 0 0 0 []).2.1 (wsLoop z.cps.toList 0 0 0 []).2.2.2 (wsLoop z.cps.toList 0 0 0 []).2.2.1 (decide ((wsLoop z.cps.toList 0 0 0 []).2.2.2.length ≤ 1))
section
variable {prog : Program} {w : World} {B : Heap} {C N : Addr} {mN : Str → Option Value} {fI fL fD fS : Addr} {mg mb : Str → Option Value} {n : Nat} {Sp : Nat → List V → V → Prop}
noncomputable abbrev initSc : Scope := (meDf "__init__").scope
theorem init_var0 : isVar initSc vs_init 0 "self" = true := by decide +kernel
theorem init_var1 : isVar initSc vs_init 1 "ws" = true := by decide +kernel
theorem init_st2 : isStore initSc vs_init 2 "S" = true := by decide +kernel
theorem init_st3 : isStore initSc vs_init 3 "T" = true := by decide +kernel
theorem init_st8 : isStore initSc vs_init 8 "ch" = true := by decide +kernel
theorem init_glob : isGlob initSc "Whitespace" = true := by decide +kernel
theorem init_kS : initSc.names.lookup ("S" : Str) = some .local := by decide +kernel
theorem init_kT : initSc.names.lookup ("T" : Str) = some .local := by decide +kernel
noncomputable def ClsStr (prog : Program) (w : World) (B : Heap) (C : Addr) (name x : Str) : Prop :=
  ∀ (A : Around) (s : Shared) (E : Value → Shared → Prop) (Q : Value → Shared → Prop), PH.Sub (ofHeap B) s.heap → (∀ t, Q (.str x t) { s with toks := s.toks + 1 }) → wpAny (model prog w) A (getAttr (.ref C) name true) Q E s

theorem wsLoop_len : ∀ (l : List Nat) (n nt b : Nat) (cnt : List Int), b + l.length ≤ 1000 → cnt.length ≤ 1001 → (wsLoop l n nt b cnt).2.2.2.length ≤ 1001
  | [], _, _, _, cnt, _, hc => hc
  | c :: r, n, nt, b, cnt, hb, hc => by
    simp only [List.length_cons] at hb
    rw [wsLoop]
    split
    · exact wsLoop_len r _ _ _ _ (by omega) hc
    · split
      · refine wsLoop_len r _ _ _ _ (by omega) ?_
        rw [List.length_set]
        split
        · simp; omega
        · omega
      · exact hc
theorem e_tuple {ρ : List Slot} {Q : V → List Slot → Prop} {a : CE} (h : wpE Sp a ρ fun va ρ₁ => ∃ l, va = .list l ∧ l.length ≤ 1048576 ∧ Q (.tup l) ρ₁) : wpE Sp (.tuple a) ρ Q := h
theorem Mk.v0 {cx : Cx} {K g₀ g : PH} {s₀ s : Shared} {x dx : Addr} {m : Str → Option Value} {val : Nat → Value} {ρ : List Slot} (M : Mk cx K g₀ s₀ x dx C m val ρ g s) (h : cx.vars[0]? = some ("self" : Str)) (hρ : ρ.getD 0 .undef = .fro (.ref x)) : val 0 = .ref x := by
  exact (M.I.fro h hρ).2
theorem init_body {cx : Cx} {K g₀ g : PH} {s₀ s : Shared} {val : Nat → Value} {A : Around} {E : Value → Shared → Prop} {x dx : Addr} {z : Str} {t : Tok} {Q : Flow → Shared → Prop} (H : SndAll prog w B C mg mb n Sp) (W : WsAt B C N mN fI fL fD fS) (hmg : mg "Whitespace" = some (.ref C)) (hS : ClsStr prog w B C "S" " ") (hT : ClsStr prog w B C "T" "\t")
    (hz : z.cps.size ≤ 1000) (hvars : cx.vars = vs_init) (hC : cx.C = C) (at_ : At B C n initSc cx K A) (hBx : B.get? x = none) (hK : ∀ b ∈ [x, dx], K b = none) (h0 : ∀ b ∈ [x, dx], g₀ b = none) (hv0 : val 0 = .ref x) (hv1 : val 1 = .str z t)
    (M : Mk cx K g₀ s₀ x dx C (fun _ => none) val ([.fro (.ref x), .fro (.str z)] ++ List.replicate 7 Slot.undef) g s)
    (hq : ∀ m val' ρ' g' s' vn vnt vb vs, Mk cx K g₀ s₀ x dx C m val' ρ' g' s' → m "n" = some vn → m "nt" = some vnt → m "norm" = some vb → m "is_simple" = some vs → m "longest_run_of_spaces" = none → m "indent_level" = none → m "less" = none →
      Rep C g' vn (.int (wsLoop z.cps.toList 0 0 0 []).1) → Rep C g' vnt (.int (wsLoop z.cps.toList 0 0 0 []).2.1) → Rep C g' vb (.tup [.tup (intsV (wsLoop z.cps.toList 0 0 0 []).2.2.2), .int (wsLoop z.cps.toList 0 0 0 []).2.2.1]) → Rep C g' vs (.bool (decide ((wsLoop z.cps.toList 0 0 0 []).2.2.2.length ≤ 1))) → Q .next s') :
    wpAny (model prog w) A (execs (meDf "__init__").body cx.env) Q E s := by
  obtain ⟨b2, b3, fb, a7, b7, l8, r8, k7, p1, p2, p3, p4, p5, p6, p7, p8, p9, p10, p11, p12, p13, p14, p15, p16, p17, p18, p19, p20, p21, p22, p23, p24, p25, p26, p27, p28, p29, q5, q6, q7, q8, hbody, hline, hca, hcb, hc5, hc6, hc7, hc8⟩ := init_parts
  rw [hbody]
  have D := H.S.base
  have v0 : isVar initSc cx.vars 0 "self" = true := by rw [hvars]; exact init_var0
  have v1 : isVar initSc cx.vars 1 "ws" = true := by rw [hvars]; exact init_var1
  have kS : cx.env.kindOf "S" = some .local := at_.kind init_kS nofun
  have kT : cx.env.kindOf "T" = some .local := at_.kind init_kT nofun
  have bk : cx.env.blockKind = .function := by
    unfold Env.blockKind
    rw [at_.env.kind]; rfl
  have w0 : Within (fun _ : Str => (none : Option Value)) wsNames := fun y hy => absurd rfl hy
  refine wpAny_execs_cons (plainObj_wpAny_Assign_Attribute (name_var (d := .str z) (M.at at_ hK) M.I v1 rfl (name_var (d := .ref x) (M.at at_ hK) M.I v0 rfl ?_)) rfl)
  rw [hv0, hv1]
  refine M.put W at_ hBx hK h0 (by decide) lk_raw w0 fun s₁ M₁ => ?_
  have w1 := Within.put (name := "raw") (v := .str z t) w0 (by decide)
  have at1 := M₁.at at_ hK
  have hBs : PH.Sub (ofHeap B) s₁.heap := M₁.I.sub at1
  refine wpAny_execs_cons (Assign_Tuple_swapped ?_ rfl (swap_st hline kS kT bk))
  rw [arm_eval_Tuple]
  refine wpAny_bind (wpAny_standAt (wpAny_bind ?_))
  rw [star1 rfl, star1 rfl]
  refine spliced_cons (Attribute_Name_ (glob_fn D at1 hBs init_glob hmg (hS _ _ _ _ hBs fun t1 => ?_)))
  refine spliced_cons (Attribute_Name_ (glob_fn (s := { s₁ with toks := s₁.toks + 1 }) D at1 hBs init_glob hmg (hT _ _ _ _ hBs fun t2 => spliced_nil ?_)))
  refine wpAny_newTuple ?_ (size_ok (by simp))
  have Jt := M₁.I.ext (Ext.of (h := s₁.heap.push (tupObj [.str " " t1, .str "\t" t2] 0)) (tk := s₁.toks + 1 + 1) M₁.I.frz fun b o e => Heap.get?_push_of_some _ e)
  refine unpackItems_tuple (t := s₁.heap.objs.size) (items := #[.str " " t1, .str "\t" t2]) at_.a.handled ⟨_, Heap.get?_push_size _ rfl, rfl, _, rfl⟩ fun h' hk' => ?_
  have Ju := Jt.ext (Ext.of (h := h') (tk := s₁.toks + 1 + 1) Jt.frz fun b o e => hk' b o (Nat.ne_of_lt (Heap.lt_size e)) e)
  show wpAny _ A (assignInOrder [fun v => bindName cx.env "T" v, fun v => bindName cx.env "S" v] [.str "\t" t2, .str " " t1]) _ _ _
  refine wpAny_bind (wpAny_holding (wpAny_bindName (store_ok (sl := .fro (.str "\t")) at1 Ju (by rw [hvars]; exact init_st3) (Rep.str (C := cx.C) (g := g) _ _) fun s₂ I₂ => ?_)))
  refine wpAny_bind (wpAny_holding (wpAny_bindName (store_ok (sl := .fro (.str " ")) at1 I₂ (by rw [hvars]; exact init_st2) (Rep.str (C := cx.C) (g := g) _ _) fun s₃ I₃ => ?_)))
  refine wpAny_pure ?_
  have hca1 := a1 hca
  have hca2 := a1 (a2 hca)
  rw [← hvars] at hca1 hca2 hcb hc5 hc6 hc7 hc8
  refine wpAny_execs_cons (wpAny_mono (sndS H (.ownList 4 []) _ _ _ _ _ _ _ _ _ _ E (fun o => o = .next _) _ hca1 at1 I₃ (s_ownList (es_nil rfl))) (fun f s₄ p => ?_) fun _ _ e => e)
  obtain ⟨o, val₄, g₄, rfl, ok⟩ := p
  cases f <;> first
    | exact False.elim ok
    | skip
  refine wpAny_execs_cons (wpAny_mono (sndS H (.chain [5, 6, 7] (.int 0)) _ _ _ _ _ _ _ _ _ _ E (fun o => o = .next _) _ hca2 at1 ok rfl) (fun f s₅ p => ?_) fun _ _ e => e)
  obtain ⟨o, val₅, g₅, rfl, ok⟩ := p
  cases f <;> first
    | exact False.elim ok
    | skip
  have M₅ : Mk cx K g₀ s₀ x dx C _ val₅ (initρ x z 0 0 0 [] .undef) g₅ s₅ := M₁.next ok
  have at5 := M₅.at at_ hK
  have hx0 : cx.vars[0]? = some ("self" : Str) := by rw [hvars]; rfl
  refine wpAny_execs_cons (wpAny_mono (Q := PostS cx (withK K [x, dx] s₅.heap) g₀ s₀ (fun o => ∃ ch', o = .next (initρ x z (wsLoop z.cps.toList 0 0 0 []).1 (wsLoop z.cps.toList 0 0 0 []).2.1 (wsLoop z.cps.toList 0 0 0 []).2.2.1 (wsLoop z.cps.toList 0 0 0 []).2.2.2 ch'))) (wpAny_For ?_ (fun _ => rfl)) (fun f s₆ p => ?_) fun _ _ e => e)
  · refine Attribute_Name_ (name_var (d := .ref x) at5 M₅.I v0 rfl ?_)
    rw [M₅.v0 hx0 rfl]
    refine ws_load W (M₅.I.sub at5) (by decide) lk_raw M₅.O.inst (v := .str z t) (if_pos rfl) rfl ?_
    refine wpAny_pyIter_strU ?_
    have I₆ := M₅.I.grow (s' := { s₅ with heap := s₅.heap.push { cls := .type (strIterType z), data := .fields #[.str z t, .int 0 0] }, toks := s₅.toks + 1 }) (fun b o e => Heap.get?_push_of_some _ e) .of
    obtain ⟨hO, hKn, h0'⟩ := M₅.I.fresh (wr := [s₅.heap.objs.size]) (fun b hb => by simp at hb; subst hb; exact fresh_size _)
    exact for_ok (fun _ _ h => h) (sndSs H co_init_b) (bind1_ok (by rw [hvars]; exact init_st8)) hcb at5 I₆ hO hKn h0' (fun _ h => h.elim) (MyIt.str cx.C n (.Name "ch" p14) (t := t)) ⟨_, Heap.get?_push_size _ rfl, rfl, rfl⟩ (vc_init Sp x z _ z.cps.toList 0 0 0 [] .undef (by simp; omega) (by simp) fun ch' => ⟨ch', rfl⟩)
  obtain ⟨o, val₆, g₆, ⟨ch', rfl⟩, ok⟩ := p
  cases f <;> first
    | exact False.elim ok
    | skip
  have M₆ := M₅.next ok
  have hlen := wsLoop_len z.cps.toList 0 0 0 [] (by simp; omega) (by simp)
  generalize wsLoop z.cps.toList 0 0 0 [] = res at M₆ hlen hq ⊢
  obtain ⟨rn, rnt, rb, rc⟩ := res
  have hlen : rc.length ≤ 1001 := hlen
  refine wpAny_execs_cons (Mk.set (sndA H.S H.srt (.var 6)).1 W at_ hBx hK h0 M₆ (by decide) lk_n w1 hc5 v0 rfl (M₆.v0 hx0 rfl) (Qe := fun d ρ' => d = .int rn ∧ ρ' = initρ x z rn rnt rb rc ch') (e_fro rfl ⟨by simp [slotV], rfl, rfl⟩) fun vn d ρ₇ g₇ s₇ hQe l₇ r₇ M₇ => ?_)
  obtain ⟨rfl, rfl⟩ := hQe
  have w2 := Within.put (name := "n") (v := vn) w1 (by decide)
  refine wpAny_execs_cons (Mk.set (sndA H.S H.srt (.var 7)).1 W at_ hBx hK h0 M₇ (by decide) lk_nt w2 hc6 v0 rfl (M₇.v0 hx0 rfl) (Qe := fun d ρ' => d = .int rnt ∧ ρ' = initρ x z rn rnt rb rc ch') (e_fro rfl ⟨by simp [slotV], rfl, rfl⟩) fun vnt d ρ₈ g₈ s₈ hQe l₈ r₈ M₈ => ?_)
  obtain ⟨rfl, rfl⟩ := hQe
  have w3 := Within.put (name := "nt") (v := vnt) w2 (by decide)
  refine wpAny_execs_cons (Mk.set (sndA H.S H.srt (.tup [.tuple (.var 4), .var 5])).1 W at_ hBx hK h0 M₈ (by decide) lk_norm w3 hc7 v0 rfl (M₈.v0 hx0 rfl) (Qe := fun d ρ' => d = .tup [.tup (intsV rc), .int rb] ∧ ρ' = (initρ x z rn rnt rb rc ch').set 4 (.fro (.list (intsV rc)))) ?_ fun vb d ρ₉ g₉ s₉ hQe l₉ r₉ M₉ => ?_)
  · refine e_tup (es_cons (e_tuple (e_own rfl ⟨_, rfl, by simp [intsV]; omega, es_cons (e_fro rfl (es_nil ⟨by simp [slotV], rfl, rfl⟩))⟩)))
  obtain ⟨rfl, rfl⟩ := hQe
  have w4 := Within.put (name := "norm") (v := vb) w3 (by decide)
  refine wpAny_execs_cons (Mk.set (sndA H.S H.srt (.cmp .LtE (.lenv 4) (.int 1))).1 W at_ hBx hK h0 M₉ (by decide) lk_simple w4 hc8 v0 rfl (M₉.v0 hx0 rfl) (Qe := fun d ρ' => d = .bool (decide (rc.length ≤ 1)) ∧ ρ' = (initρ x z rn rnt rb rc ch').set 4 (.fro (.list (intsV rc)))) ?_ fun vs d ρ₁₀ g₁₀ s₁₀ hQe l₁₀ r₁₀ M₁₀ => ?_)
  · refine e_cmp (e_lenv (n := (rc.length : Int)) rfl rfl ?_ (e_int (c_le ⟨by simp [slotV], ?_, rfl⟩)))
    · show (if (intsV rc).length ≤ 1048576 then some ((intsV rc).length : Int) else none) = _
      rw [if_pos (by simp [intsV]; omega)]
      simp [intsV]
    · have : decide ((rc.length : Int) ≤ 1) = decide (rc.length ≤ 1) := by
        by_cases h : rc.length ≤ 1
        · rw [decide_eq_true h, decide_eq_true (by omega)]
        · rw [decide_eq_false h, decide_eq_false (by omega)]
      rw [this]
  obtain ⟨rfl, rfl⟩ := hQe
  rw [hC] at r₇ r₈ r₉ r₁₀
  exact wpAny_execs_nil (hq _ _ _ _ _ vn vnt vb vs M₁₀ (by rfl) (by rfl) (by rfl) (by rfl) (by rfl) (by rfl) (by rfl) (r₇.mono (l₈.trans (l₉.trans l₁₀))) (r₈.mono (l₉.trans l₁₀)) (r₉.mono l₁₀) r₁₀)
end
end Mine

-- part 48
namespace Mine
section
variable {prog : Program} {w : World} {B : Heap} {C N : Addr} {mN : Str → Option Value} {fI fL fD fS : Addr} {mg mb : Str → Option Value} {n : Nat} {Sp : Nat → List V → V → Prop}
theorem Ns.live {h : Heap} {a : Addr} {m : Str → Option Value} (hn : h.Ns a m) : ∃ o, h.get? a = some o := hn.elim fun o h => h.elim fun _ h => h.elim fun _ h => ⟨o, h.1⟩
theorem Mk.ne {cx : Cx} {K g₀ g : PH} {s₀ s : Shared} {x dx : Addr} {m : Str → Option Value} {val : Nat → Value} {ρ : List Slot} (M : Mk cx K g₀ s₀ x dx C m val ρ g s) : dx ≠ x := M.O.inst.elim fun o h => h.2.2.2.elim (fun q => nos q.1 (M.O.dict o h.1)) fun q => q.elim fun d' q => soms q.1 (M.O.dict o h.1) ▸ q.2.1
theorem made_ok {h' : Heap} {s s' : Shared} {cx : Cx} {K g g' : PH} {L x dx : Addr} {m : Str → Option Value} {val' : Nat → Value} {ρ' : List Slot} {vn vnt vb vs : Value} {i nt b : Int} {cnt : List Int} {sm : Bool} {Q : Value → Shared → Prop} (hH : Here L g s) (hkeep : ∀ b o, s.heap.get? b = some o → h'.get? b = some o)
    (Mf : Mk cx K g { s with heap := h' } x dx C m val' ρ' g' s') (newX : ∀ b ∈ [x, dx], s.heap.get? b = none) (gX : ∀ b ∈ [x, dx], g b = none) (Kout : ∀ b, b ∉ [x, dx] → K b = h'.get? b) (m1 : m "n" = some vn) (m2 : m "nt" = some vnt) (m3 : m "norm" = some vb) (m4 : m "is_simple" = some vs) (m5 : m "longest_run_of_spaces" = none) (m6 : m "indent_level" = none) (m7 : m "less" = none)
    (r1 : Rep C g' vn (.int i)) (r2 : Rep C g' vnt (.int nt)) (r3 : Rep C g' vb (.tup [.tup (intsV cnt), .int b])) (r4 : Rep C g' vs (.bool sm)) (hQ : Back C L s g (.ws i nt cnt b sm) Q) : Q (.ref x) s' := by
  have lv := Mf.O.live
  have Of := Mf.I.off lv gX
  obtain ⟨ox, hox⟩ := lv x (.head _)
  obtain ⟨od, hod⟩ := lv dx (.tail _ (.head _))
  have le1 : PH.le g' (g'.put x ox) := PH.le_put (Of.g x (.head _))
  have le2 : PH.le (g'.put x ox) ((g'.put x ox).put dx od) := PH.le_put ((PH.put_ne Mf.ne).trans (Of.g dx (.tail _ (.head _))))
  have le3 := le1.trans le2
  have keepAll : ∀ b o, s.heap.get? b = some o → s'.heap.get? b = some o := fun b o e => by
    have hb : b ∉ [x, dx] := fun hb => nos (newX b hb) e
    exact Mf.I.keep b o ((withK_out hb).trans ((Kout b hb).trans (hkeep b o e)))
  have frz2 : PH.Sub ((g'.put x ox).put dx od) s'.heap := fun b o e => (PH.put_cases e).elim (fun q => q.1 ▸ q.2 ▸ hod) fun e => (PH.put_cases e).elim (fun q => q.1 ▸ q.2 ▸ hox) fun e => Mf.I.frz b o e
  have ne : ∀ b, s.heap.get? b = none → b ≠ L ∧ s.heap.get? b = none := fun b z => ⟨fun q => hH.ns.elim fun m hm => (Ns.live hm).elim fun o' ho => nos z (q ▸ ho), z⟩
  have ext : Ext L s g s' ((g'.put x ox).put dx od) := ⟨fun b o _ e => keepAll b o e, fun m' hm' => hm'.keeps keepAll, Mf.I.le₀.trans le3, frz2, fun b o e => (PH.put_cases e).elim (fun q => .inr (ne b (newX b (q.1 ▸ .tail _ (.head _))))) fun e => (PH.put_cases e).elim (fun q => .inr (ne b (newX b (q.1 ▸ .head _)))) fun e =>
    (Mf.I.new b o e).imp id fun q => have w := withK_not lv q; ne b (nn fun o' z => nos w.2 ((Kout b w.1).trans (hkeep b o' z))), Rest.trans (.of (h := h') (tk := s.toks)) Mf.I.rest⟩
  refine hQ (.ref x) s' _ ext ⟨x, rfl, ?_⟩
  obtain ⟨da, vs1, k1, rfl, hda, rv⟩ := r3
  obtain ⟨v1, v2, rfl, rc, rb⟩ := rv.two
  obtain ⟨ca, cs, k2, rfl, hca, rcs⟩ := rc
  obtain ⟨t3, rfl⟩ := rb
  exact ⟨ca, da, m, cs, fun hh hsub => (Mf.O.at' (h' := hh) fun b hb o e => hsub b o (mem2 (P := fun b => s'.heap.get? b = some o → ((g'.put x ox).put dx od) b = some o) hb (fun e => soms hox e ▸ le2 _ _ (PH.put_self ..)) (fun e => soms hod e ▸ PH.put_self ..) e)).inst,
    r1.elim fun t h => ⟨t, h ▸ m1⟩, r2.elim fun t h => ⟨t, h ▸ m2⟩, (show vs = .bool sm from r4) ▸ m4, m3, ⟨t3, k1, le3 _ _ hda⟩, ⟨k2, le3 _ _ hca⟩, rcs.ints, m5, m6, m7, ⟨ox, le2 _ _ (PH.put_self ..)⟩⟩

theorem ws_make {pm cd doc : Value} (H : SndAll prog w B C mg mb n Sp) (W : WsAt B C N mN fI fL fD fS) (F : FnAt B fI (mdOf "__init__" pm cd doc)) (hmg : mg "Whitespace" = some (.ref C)) (hS : ClsStr prog w B C "S" " ") (hT : ClsStr prog w B C "T" "\t") {z : Str} (hz : z.cps.size ≤ 1000) : Contract prog w B C (n + 2) C [.str z] (wsOf z) := by
  intro A s g L E Q cvs hA hB hH hr hQ
  obtain ⟨_, _, rfl, ⟨t, rfl⟩, rfl⟩ := hr
  obtain ⟨h, gg, d, tk, os⟩ := s
  obtain ⟨_, _, _, _, _, _, _, _, _, _, _, _, hC⟩ := W.cls
  obtain ⟨oI, hfo, hfc⟩ := W.fn fI (by simp)
  refine wpAny_call_obj_init PySem.F.objNew (hB _ _ hC) (W.ns.keeps hB) W.i (hB _ _ hfo) hfc fun h' x dx hm => ?_
  have newX : ∀ b ∈ [x, dx], h.get? b = none := fun b hb => mem2 (P := fun b => h.get? b = none) hb hm.newX hm.newD
  have gX : ∀ b ∈ [x, dx], g b = none := fun b hb => nn fun o q => nos (newX b hb) (hH.frz b o q)
  have bX : ∀ b ∈ [x, dx], B.get? b = none := fun b hb => nn fun o q => nos (newX b hb) (hB b o q)
  let K : PH := fun b => if b ∈ [x, dx] then none else h'.get? b
  have Kout : ∀ b, b ∉ [x, dx] → K b = h'.get? b := fun b hb => if_neg hb
  have Kin : ∀ b ∈ [x, dx], K b = none := fun b hb => if_pos hb
  have Ksub : PH.Sub K h' := fun b o e => by
    by_cases hb : b ∈ [x, dx]
    · exact nos (Kin b hb) e
    · exact (Kout b hb).symm.trans e
  have O : ObjAt x dx C (fun _ => none) h' := ⟨hm.inst, hm.dict⟩
  refine enter_of (n := n) (K := K) (C := C) (vs := [.ref x, .str z]) (g := g) (s := ⟨h', gg, d, tk, os⟩) H.S.base F (init_sh pm cd doc) rfl ⟨hA.handled, ?_, ?_⟩ (fun b o e => hm.keeps b o (hB b o e)) (fun b o e => ?_) Ksub (fun b o e => hm.keeps b o (hH.frz b o e)) (.cons (.ref x) (.cons (.str _ _) .nil)) fun cx s₁ hvars hCx _ _ hP hkeep hrest at_ I => ?_
  · exact Nat.lt_of_le_of_lt (Nat.le_of_eq ((Nat.add_assoc ..).trans (congrArg (A.depth + ·) (Nat.add_comm 1 (n + 1))))) hA.depth
  · have hun := hA.units
    have hu : (A.under (.builtin "type.__call__" ⟨.ref C :: [.str z t], []⟩)).units ≤ A.units + 50 := by
      show A.units + (Code.builtin "type.__call__" ⟨.ref C :: [.str z t], []⟩).cUnits ≤ A.units + 50
      have e : (Code.builtin "type.__call__" ⟨.ref C :: [.str z t], []⟩).cUnits = (Code.builtin "type.__call__" ⟨[], []⟩).cUnits := rfl
      rw [e]
      exact Nat.add_le_add_left (by decide +kernel) _
    exact Nat.lt_of_le_of_lt (Nat.add_le_add_right (Nat.le_trans (Nat.add_le_add_right hu (100 * (n + 1))) (Nat.le_trans (Nat.le_of_eq ((Nat.add_assoc ..).trans (congrArg (A.units + ·) (Nat.add_comm 50 _)))) (Nat.add_le_add_left (Nat.add_le_add_left (by decide : 50 ≤ 100) _) A.units))) 200) hun
  · exact (Kout b fun hb => nos (bX b hb) e).trans (hm.keeps b o (hB b o e))
  · have I₀ : Inv cx K g ⟨h', gg, d, tk, os⟩ (fun i => ([Value.ref x, .str z t] : List Value).getD i .none) ([.fro (.ref x), .fro (.str z)] ++ List.replicate 7 Slot.undef) g s₁ := I
    have hOff : Off cx K g (fun i => ([Value.ref x, .str z t] : List Value).getD i .none) ([.fro (.ref x), .fro (.str z)] ++ List.replicate 7 Slot.undef) [x, dx] := by
      exact ⟨gX, fun b hb hp => (O.live b hb).elim fun o ho => nos (hP b hp) ho, fun b hb i l hi q => (slots0_own (vs := [.ref x, .str z]) (rest := ["S", "T", "count", "b", "n", "nt", "ch"]) q).elim⟩
    have O₁ : ObjAt x dx C (fun _ => none) s₁.heap := O.at' fun b _ o e => hkeep b o e
    have M : Mk cx K g ⟨h', gg, d, tk, os⟩ x dx C (fun _ => none) (fun i => ([Value.ref x, .str z t] : List Value).getD i .none) ([.fro (.ref x), .fro (.str z)] ++ List.replicate 7 Slot.undef) g s₁ := ⟨I₀.addK hOff O₁.live, O₁⟩
    refine init_body (t := t) H W hmg hS hT hz hvars hCx at_ (bX x (by simp)) Kin gX rfl rfl M fun m val' ρ' g' s' vn vnt vb vs Mf m1 m2 m3 m4 m5 m6 m7 r1 r2 r3 r4 => ⟨rfl, ?_⟩
    exact made_ok (s := ⟨h, gg, d, tk, os⟩) hH hm.keeps Mf newX gX Kout m1 m2 m3 m4 m5 m6 m7 r1 r2 r3 r4 hQ
end
end Mine

-- part 49
namespace Mine
section
variable {prog : Program} {w : World} {A : Around} {E : Value → Shared → Prop} {s : Shared} {b : Array UInt8} {t : Tok}
noncomputable def StopAt (h h' : Heap) (it e : Addr) : Prop :=
  (∀ a o, a ≠ it → h.get? a = some o → h'.get? a = some o) ∧ (∃ o, h'.get? it = some o) ∧ h.get? e = none ∧ ∃ ob vs a0, h'.get? e = some ob ∧ ob.cls = .type "StopIteration" ∧ ob.data = .fields vs ∧ vs[1]? = some .none ∧ vs[0]? = some a0
theorem byte_item {it : Addr} {i : Nat} {c : UInt8} {Q : Option Value → Shared → Prop} (hit : KBw.IsBytesIter s.heap it b t i) (hx : b[i]? = some c)
    (hQ : ∀ h', KBw.IsBytesIter h' it b t (i + 1) → Heap.SameBut it s.heap h' → Q (some (.int (c.toNat : Int) s.toks)) { s with heap := h', toks := s.toks + 1 }) : wpAny (model prog w) A (callSpecial? (.ref it) (Str.ofString "__next__")) Q E s := by
  obtain ⟨o, ho, hc, hd⟩ := id hit
  refine wpAny_callSpecial?_slot (name := Str.ofString "__next__") (KBw.iter_typeIs hit) KBw.slot_next (wpAny_call_entry KBw.slot_next (KBw.iter_typeIs hit) KBw.entry_next ?_ (KBw.args_next _))
  show wpAny _ _ (field (.ref it) 0 >>= _) _ _ s
  refine wpAny_bind (wpAny_field ho hd (x := .bytes b t) rfl ?_)
  show wpAny _ _ (if (Value.bytes b t == Value.none) = true then _ else _) _ _ s
  rw [if_neg (show ¬ ((Value.bytes b t == Value.none) = true) from Bool.false_ne_true)]
  show wpAny _ _ (field (.ref it) 1 >>= _) _ _ s
  refine wpAny_bind (wpAny_field ho hd (x := .int i 0) rfl ?_)
  refine wpAny_bind (wpAny_of_eq (a := b) rfl ?_)
  simp only [Int.toNat_natCast, hx]
  refine wpAny_bind (wpAny_setField ho hd (by simp) (wpAny_bind (wpAny_mkInt (wpAny_pure ⟨_, rfl, hQ _ ?_ (Heap.SameBut.update ..)⟩))))
  exact ⟨_, Heap.get?_update_self _ ho (Obj.isFreed_of_fields (Obj.data_mapFields hd _)), (Obj.cls_mapFields ..).trans hc, by
    rw [Obj.data_mapFields hd]; simp [rawInt]⟩
theorem byte_end {it : Addr} {i : Nat} {Q : Option Value → Shared → Prop} (hh : A.handled = none) (hit : KBw.IsBytesIter s.heap it b t i) (hx : b[i]? = none)
    (hE : ∀ h' e, StopAt s.heap h' it e → E (.ref e) { s with heap := h' }) : wpAny (model prog w) A (callSpecial? (.ref it) (Str.ofString "__next__")) Q E s := by
  obtain ⟨o, ho, hc, hd⟩ := id hit
  refine wpAny_callSpecial?_slot (name := Str.ofString "__next__") (KBw.iter_typeIs hit) KBw.slot_next (wpAny_call_entry KBw.slot_next (KBw.iter_typeIs hit) KBw.entry_next ?_ (KBw.args_next _))
  show wpAny _ _ (field (.ref it) 0 >>= _) _ _ s
  refine wpAny_bind (wpAny_field ho hd (x := .bytes b t) rfl ?_)
  show wpAny _ _ (if (Value.bytes b t == Value.none) = true then _ else _) _ _ s
  rw [if_neg (show ¬ ((Value.bytes b t == Value.none) = true) from Bool.false_ne_true)]
  show wpAny _ _ (field (.ref it) 1 >>= _) _ _ s
  refine wpAny_bind (wpAny_field ho hd (x := .int i 0) rfl ?_)
  refine wpAny_bind (wpAny_of_eq (a := b) rfl ?_)
  simp only [Int.toNat_natCast, hx]
  refine wpAny_bind (wpAny_rule (wpAny_bind (wpAny_setField ho hd (by simp) ?_)))
  have ho' := Heap.get?_update_self (Obj.mapFields (·.setIfInBounds 0 Value.none)) ho (Obj.isFreed_of_fields (Obj.data_mapFields hd _))
  show wpAny _ _ (newExc (.type "StopIteration") [] >>= _) _ _ _
  refine wpAny_bind ?_
  simp only [newExc, newTuple]
  refine wpAny_bind (wpAny_newObj_type ?_ (by size_fits))
  refine wpAny_bind (m := firstArgMember _ _) (wpAny_of_eq (a := Value.none) (by first | rfl | (simp only [firstArgMember]; rfl)) ?_)
  refine wpAny_newObj_type ?_ (by size_fits)
  simp only [raiseNew]
  refine wpAny_bind (wpAny_handled ?_)
  rw [show A.in1.handled = none from hh]
  refine wpAny_bind (wpAny_pure (wpAny_throw ?_))
  refine hE _ _ ⟨fun a o' ha e => Heap.get?_push_of_some _ (Heap.get?_push_of_some _ ((Heap.get?_update_other _ _ (Ne.symm ha)).trans e)), ⟨_, Heap.get?_push_of_some _ (Heap.get?_push_of_some _ ho')⟩, ?_, _, _, _, Heap.get?_push_size _ rfl, rfl, rfl, rfl, rfl⟩
  cases q : s.heap.get? _ with
  | none => rfl
  | some o' =>
    have := Heap.lt_size q
    rw [Heap.size_push, Heap.size_after_update] at this
    exact absurd this (Nat.not_lt.mpr (Nat.le_succ _))
theorem next_byte {it : Addr} {i : Nat} {c : UInt8} {Q : Value → Shared → Prop} (hit : KBw.IsBytesIter s.heap it b t i) (hx : b[i]? = some c)
    (hQ : ∀ h', KBw.IsBytesIter h' it b t (i + 1) → Heap.SameBut it s.heap h' → Q (.int (c.toNat : Int) s.toks) { s with heap := h', toks := s.toks + 1 }) : wpAny (model prog w) A (call (.builtin "next") [.ref it]) Q E s := by
  refine call_function_entry (by decide +kernel) (by decide +kernel) kdk_entry_next (kdk_args_next _) ?_
  unfold Builtin.«next»
  refine wpAny_bind (m := someArgs "next" 1 2 _) (wpAny_of_eq (a := [Value.ref it]) (by first | rfl | kernel_rfl!) ?_)
  dsimp only
  refine wpAny_bind (wpAny_specialOf (name := Str.ofString "__next__") (KBw.iter_typeIs hit) KBw.slot_next.lookup ?_)
  refine wpAny_ite_split (fun hab => absurd hab (by decide)) (fun _ => ?_)
  exact wpAny_bind (byte_item hit hx fun h' hit' hs => wpAny_pure ⟨_, rfl, hQ h' hit' hs⟩)
theorem next_stop {it : Addr} {i : Nat} {Q : Value → Shared → Prop} (hh : A.handled = none) (hit : KBw.IsBytesIter s.heap it b t i) (hx : b[i]? = none)
    (hE : ∀ h' e, StopAt s.heap h' it e → E (.ref e) { s with heap := h' }) : wpAny (model prog w) A (call (.builtin "next") [.ref it]) Q E s := by
  refine call_function_entry (by decide +kernel) (by decide +kernel) kdk_entry_next (kdk_args_next _) ?_
  unfold Builtin.«next»
  refine wpAny_bind (m := someArgs "next" 1 2 _) (wpAny_of_eq (a := [Value.ref it]) (by first | rfl | kernel_rfl!) ?_)
  dsimp only
  refine wpAny_bind (wpAny_specialOf (name := Str.ofString "__next__") (KBw.iter_typeIs hit) KBw.slot_next.lookup ?_)
  refine wpAny_ite_split (fun hab => absurd hab (by decide)) (fun _ => ?_)
  exact wpAny_bind (byte_end hh hit hx hE)
end
end Mine

-- part 50
namespace Mine
noncomputable def vgo : List Nat → Nat → Nat → Option (Nat × Nat)
  | [], b, val => if b &&& 64 = 0 then some (val, 0) else none
  | c :: r, b, val => if b &&& 64 = 0 then some (val, 0) else if val < 2 ^ 60 then (vgo r c ((val * 64) ||| (c &&& 63))).map fun p => (p.1, p.2 + 1) else none
theorem bitOr_nat (x y : Nat) : Builtin.bitOr (x : Int) (y : Int) = ((x ||| y : Nat) : Int) := by
  unfold Builtin.bitOr
  have h1 : ¬ (0 : Int) ≤ Builtin.bitNot (x : Int) := by unfold Builtin.bitNot; omega
  have h2 : ¬ (0 : Int) ≤ Builtin.bitNot (y : Int) := by unfold Builtin.bitNot; omega
  rw [bitAnd_nn h1 h2]
  have n1 : ∀ z : Int, Builtin.bitNot (Builtin.bitNot z) = z := fun z => by unfold Builtin.bitNot; omega
  rw [n1, n1, n1]
  simp
theorem bitAnd_nat (x y : Nat) : Builtin.bitAnd (x : Int) (y : Int) = ((x &&& y : Nat) : Int) := by
  rw [bitAnd_pp (by omega) (by omega)]
  simp
inductive VarintParts : Prop
  | mk (p0 p1 p2 p3 p4 p5 p6 p7 p8 p9 p10 p11 p12 p13 p14 p15 p16 p17 p18 p19 p20 p21 p22 p23 p24 p25 p26 p27 p28 : Pos)
    (h : (topDf "_parse_varint").body = [.Assign [.Name "b" p0] (.Call (.Name "next" p1) [.Name "iterator" p2] [] p3) p4,
    .Assign [.Name "val" p5] (.BinOp (.Name "b" p6) .BitAnd (.Constant (.int 63) 0 p7) p8) p9,
    .While (.BinOp (.Name "b" p10) .BitAnd (.Constant (.int 64) 0 p11) p12) [.AugAssign (.Name "val" p13) .LShift (.Constant (.int 6) 0 p14) p15, .Assign [.Name "b" p16] (.Call (.Name "next" p17) [.Name "iterator" p18] [] p19) p20,
      .AugAssign (.Name "val" p21) .BitOr (.BinOp (.Name "b" p22) .BitAnd (.Constant (.int 63) 0 p23) p24) p25] [] p26, .Return (some (.Name "val" p27)) p28]) : VarintParts
theorem varint_parts : ∃ (p : Fin 30 → Pos), (topDf "_parse_varint").body = [.Assign [.Name "b" (p 0)] (.Call (.Name "next" (p 1)) [.Name "iterator" (p 2)] [] (p 3)) (p 4),
    .Assign [.Name "val" (p 5)] (.BinOp (.Name "b" (p 6)) .BitAnd (.Constant (.int 63) 0 (p 7)) (p 8)) (p 9),
    .While (.BinOp (.Name "b" (p 10)) .BitAnd (.Constant (.int 64) 0 (p 11)) (p 12)) [.AugAssign (.Name "val" (p 13)) .LShift (.Constant (.int 6) 0 (p 14)) (p 15), .Assign [.Name "b" (p 16)] (.Call (.Name "next" (p 17)) [.Name "iterator" (p 18)] [] (p 19)) (p 20),
      .AugAssign (.Name "val" (p 21)) .BitOr (.BinOp (.Name "b" (p 22)) .BitAnd (.Constant (.int 63) 0 (p 23)) (p 24)) (p 25)] [] (p 26), .Return (some (.Name "val" (p 27))) (p 28)] := by
  have : VarintParts := .mk _ _ _ _ _ _ _ _ _ _ _ _ _ _ _ _ _ _ _ _ _ _ _ _ _ _ _ _ _ rfl
  obtain ⟨p0, p1, p2, p3, p4, p5, p6, p7, p8, p9, p10, p11, p12, p13, p14, p15, p16, p17, p18, p19, p20, p21, p22, p23, p24, p25, p26, p27, p28, h⟩ := this
  exact ⟨fun i => [p0, p1, p2, p3, p4, p5, p6, p7, p8, p9, p10, p11, p12, p13, p14, p15, p16, p17, p18, p19, p20, p21, p22, p23, p24, p25, p26, p27, p28].getD i.1 p0, h⟩
theorem varint_sh (pm cd doc : Value) : FnSh0 (fdOf "_parse_varint" pm cd doc) (topDf "_parse_varint").body ["iterator"] ["b", "val"] := fnSh0_of rfl rfl (by decide +kernel) fun vals h => vals1 h fun _ => rfl
noncomputable abbrev varSc : Scope := (topDf "_parse_varint").scope
theorem var_kinds : varSc.names.lookup ("iterator" : Str) = some .local ∧ varSc.names.lookup ("b" : Str) = some .local ∧ varSc.names.lookup ("val" : Str) = some .local ∧ varSc.names.lookup ("next" : Str) = some .globalImplicit := by decide +kernel
structure VEnv (env : Env) : Prop where
  kind : env.scope.kind = .function
  it : env.kindOf "iterator" = some .local
  b : env.kindOf "b" = some .local
  val : env.kindOf "val" = some .local
  next : env.kindOf "next" = some .globalImplicit
  glob : env.globals = mainGlobals
  blt : env.builtins = builtinsNs
section
variable {prog : Program} {w : World} {B : Heap} {mg mb : Str → Option Value} {A : Around} {E : Value → Shared → Prop} {s : Shared} {data : Array UInt8} {t : Tok} {env : Env}
theorem v_name {x : Str} {v : Value} {m : Str → Option Value} {p : Pos} {Q : Value → Shared → Prop} (X : VEnv env) (hx : env.kindOf x = some .local) (hn : s.heap.Ns env.locals m) (hv : m x = some v) (hd : (x == ("__debug__" : Str)) = false) (h : Q v s) :
    wpAny (model prog w) A (eval (.Name x p) env) Q E s := wpAny_Name (wpAny_loadName_local X.kind hx hn hv h) hd
theorem v_store {x : Str} {v : Value} {m : Str → Option Value} {Q : Unit → Shared → Prop} (X : VEnv env) (hx : env.kindOf x = some .local) (hn : s.heap.Ns env.locals m)
    (h : ∀ h', h'.Ns env.locals (fun y => if y = x then some v else m y) → Heap.SameBut env.locals s.heap h' → Q () { s with heap := h', toks := s.toks + 1 }) : wpAny (model prog w) A (storeName env x v) Q E s :=
  wpAny_storeName_local hx hn h (by rw [X.kind]; rfl)
theorem v_next {it : Addr} {m : Str → Option Value} {p1 p2 p3 : Pos} {Q : Value → Shared → Prop} (D : BaseF B mg mb) (X : VEnv env) (hB : PH.Sub (ofHeap B) s.heap) (hn : s.heap.Ns env.locals m) (hi : m "iterator" = some (.ref it))
    (h : wpAny (model prog w) A (call (.builtin "next") [.ref it]) Q E s) : wpAny (model prog w) A (eval (.Call (.Name "next" p1) [.Name "iterator" p2] [] p3) env) Q E s :=
  call_blt1 (cx := ⟨0, env, [], []⟩) (id := "next") (fun Q hq => Name_function_global X.kind X.next (loadGlobal_builtin (mg := mg) (mb := mb) (by rw [show (Cx.env ⟨0, env, [], []⟩).globals = mainGlobals from X.glob]; exact D.g.keeps hB) (D.free _ (by decide)) (by rw [show (Cx.env ⟨0, env, [], []⟩).builtins = builtinsNs from X.blt]; exact D.b.keeps hB) ((D.builtins _ (by decide)).trans (by decide +kernel)) hq) (by decide)) rfl
    (v_name X X.it hn hi (by decide) h)
end
end Mine

-- part 51
namespace Mine
section
variable {prog : Program} {w : World} {B : Heap} {mg mb : Str → Option Value} {A : Around} {E : Value → Shared → Prop} {s : Shared} {data : Array UInt8} {t : Tok} {env : Env}
noncomputable def restAt (data : Array UInt8) (pos : Nat) : List Nat := (data.toList.drop pos).map (·.toNat)
theorem restAt_cons {pos c : Nat} {r : List Nat} (h : restAt data pos = c :: r) : ∃ u : UInt8, data[pos]? = some u ∧ u.toNat = c ∧ restAt data (pos + 1) = r := by
  by_cases hlt : pos < data.toList.length
  · unfold restAt at h
    rw [List.drop_eq_getElem_cons hlt] at h
    obtain ⟨h1, h2⟩ := List.cons.inj h
    exact ⟨_, (Array.getElem?_toList ..).symm.trans (List.getElem?_eq_getElem hlt), h1, h2⟩
  · unfold restAt at h
    rw [List.drop_of_length_le (Nat.not_lt.mp hlt)] at h
    cases h
structure VSt (s₀ : Shared) (L it : Addr) (data : Array UInt8) (t : Tok) (pos : Nat) (b val : Nat) (s : Shared) : Prop where
  since : Since [L, it] s₀ s
  ns : ∃ m t1 t2, s.heap.Ns L m ∧ m "iterator" = some (.ref it) ∧ m "b" = some (.int b t1) ∧ m "val" = some (.int val t2)
  itr : KBw.IsBytesIter s.heap it data t pos
theorem vns {h : Heap} {L it : Addr} {m : Str → Option Value} {b val : Nat} (hn : h.Ns L m) (h1 : m "iterator" = some (.ref it)) (h2 : ∃ t1, m "b" = some (.int b t1)) (h3 : ∃ t2, m "val" = some (.int val t2)) : ∃ m t1 t2, h.Ns L m ∧ m "iterator" = some (.ref it) ∧ m "b" = some (.int b t1) ∧ m "val" = some (.int val t2) :=
  let ⟨_, h2⟩ := h2; let ⟨_, h3⟩ := h3; ⟨m, _, _, hn, h1, h2, h3⟩
theorem VSt.sub {s₀ : Shared} {L it : Addr} {pos b val : Nat} (V : VSt s₀ L it data t pos b val s) (hB : PH.Sub (ofHeap B) s₀.heap) (hL : B.get? L = none) (hi : B.get? it = none) : PH.Sub (ofHeap B) s.heap := fun a o e => by
  obtain ⟨h, tk, rfl, hk⟩ := V.since
  exact hk a o (fun hm => nos (mem2 (P := fun a => B.get? a = none) hm hL hi) e) (hB a o e)
theorem iter_at {h h' : Heap} {it : Addr} {pos : Nat} (x : KBw.IsBytesIter h it data t pos) (hk : ∀ o, h.get? it = some o → h'.get? it = some o) : KBw.IsBytesIter h' it data t pos := let ⟨o, ho, r⟩ := x; ⟨o, hk o ho, r⟩
inductive VarI (s₀ : Shared) (L it : Addr) (data : Array UInt8) (t : Tok) (v e : Nat) (n : Nat) (s : Shared) : Prop
  | mk (pos : Nat) (r : List Nat) (b val k : Nat) (hn : n = r.length) (hr : restAt data pos = r) (hv : vgo r b val = some (v, k)) (hk : pos + k = e) (V : VSt s₀ L it data t pos b val s) : VarI s₀ L it data t v e n s
theorem vgo_end {r : List Nat} {b val v k : Nat} (h0 : b &&& 64 = 0) (hv : vgo r b val = some (v, k)) : v = val ∧ k = 0 := by
  have e : vgo r b val = some (val, 0) := by cases r <;> exact if_pos h0
  obtain ⟨h1, h2⟩ := Prod.mk.inj (soms hv e)
  exact ⟨h1, h2⟩
theorem vgo_more {r : List Nat} {b val v k : Nat} (h0 : ¬ b &&& 64 = 0) (hv : vgo r b val = some (v, k)) : ∃ c r', r = c :: r' ∧ ∃ k', val < 2 ^ 60 ∧ vgo r' c ((val * 64) ||| (c &&& 63)) = some (v, k') ∧ k = k' + 1 := by
  cases r with
  | nil => exact nos (if_neg h0) hv
  | cons c r =>
    have hv := (if_neg h0).symm.trans hv
    obtain ⟨hsz, hv⟩ : val < 2 ^ 60 ∧ (vgo r c ((val * 64) ||| (c &&& 63))).map (fun p => (p.1, p.2 + 1)) = some (v, k) := by
      by_cases hsz : val < 2 ^ 60
      · exact ⟨hsz, (if_pos hsz).symm.trans hv⟩
      · exact nos (if_neg hsz) hv
    obtain ⟨q, hq, e⟩ := Option.map_eq_some_iff.mp hv
    obtain ⟨rfl, rfl⟩ := Prod.mk.inj e
    exact ⟨c, r, rfl, q.2, hsz, hq, rfl⟩
theorem varint_loop {s₀ : Shared} {it : Addr} {p : Fin 30 → Pos} {pos b val v k : Nat} {R : Result → Shared → Prop} (D : BaseF B mg mb) (X : VEnv env) (hB : PH.Sub (ofHeap B) s₀.heap) (hL : B.get? env.locals = none) (hi : B.get? it = none) (hne : it ≠ env.locals) (hv : vgo (restAt data pos) b val = some (v, k)) (V : VSt s₀ env.locals it data t pos b val s)
    (hR : ∀ b' s', VSt s₀ env.locals it data t (pos + k) b' v s' → R (.ok .next) s') :
    codeAny (model prog w) A (.whileLoop (.BinOp (.Name "b" (p 10)) .BitAnd (.Constant (.int 64) 0 (p 11)) (p 12)) [.AugAssign (.Name "val" (p 13)) .LShift (.Constant (.int 6) 0 (p 14)) (p 15), .Assign [.Name "b" (p 16)] (.Call (.Name "next" (p 17)) [.Name "iterator" (p 18)] [] (p 19)) (p 20),
      .AugAssign (.Name "val" (p 21)) .BitOr (.BinOp (.Name "b" (p 22)) .BitAnd (.Constant (.int 63) 0 (p 23)) (p 24)) (p 25)] [] env) R s := by
  refine codeAny_whileLoop (I := VarI s₀ env.locals it data t v (pos + k)) ?_ _ ⟨pos, _, b, val, k, rfl, rfl, hv, rfl, V⟩
  intro n s h
  obtain ⟨pos', r, b, val, k', rfl, hr, hv, hk, V⟩ := h
  obtain ⟨m, t1, t2, hn, m1, m2, m3⟩ := V.ns
  rw [isTrue_of_plain rfl]
  refine wpAny_bind (wpAny_BinOp (v_name X X.b hn m2 (by decide) (wpAny_Constant_int (and_int ?_))))
  refine wpAny_bind (wpAny_standAt (wpAny_holding (truthy_int ?_)))
  rw [show ((64 : Int)) = ((64 : Nat) : Int) from rfl, bitAnd_nat]
  have V' : ∀ tk, VSt s₀ env.locals it data t pos' b val { s with toks := tk } := fun tk => ⟨V.since.step fun _ _ _ e => e, ⟨m, t1, t2, hn, m1, m2, m3⟩, V.itr⟩
  by_cases h0 : b &&& 64 = 0
  · rw [h0, if_neg (by decide)]
    obtain ⟨rfl, rfl⟩ := vgo_end h0 hv
    exact wpAny_execs_nil (hR b _ ((show pos' = pos + k from hk) ▸ V' _))
  · rw [if_pos (by
      have : ((b &&& 64 : Nat) : Int) ≠ 0 := by omega
      simpa using this)]
    obtain ⟨c, r, rfl, k₂, hsz, hg, rfl⟩ := vgo_more h0 hv
    obtain ⟨u, hu, rfl, hr'⟩ := restAt_cons hr
    refine wpAny_execs_cons (wpAny_AugAssign_Name (wpAny_loadName_local X.kind X.val hn m3 (wpAny_Constant_int (ilshift_int (by decide) ?_ ?_))))
    · have := intBits_le_64' (k := (val : Int)) (by omega)
      omega
    refine v_store X X.val (s := { s with toks := _ }) hn fun h₁ hn₁ hs₁ => ?_
    have itr₁ := iter_at (h' := h₁) V.itr fun o e => hs₁.extBut _ o hne e
    have since₁ : ∀ tk, Since [env.locals, it] s₀ { s with heap := h₁, toks := tk } := fun tk => V.since.step fun a o ha e => hs₁.extBut a o (fun z => ha (z ▸ .head _)) e
    have hB₁ : PH.Sub (ofHeap B) h₁ := fun a o e => hs₁.extBut a o (fun z => by
      have e : B.get? a = some o := e
      rw [z, hL] at e; cases e) (V.sub hB hL hi a o e)
    refine wpAny_execs_cons (wpAny_Assign_Name (v_next (s := { s with heap := h₁, toks := _ }) D X hB₁ hn₁ (by rw [if_neg (by decide)]; exact m1) (next_byte itr₁ hu fun h₂ itr₂ hs₂ => ?_)) rfl)
    have hn₂ := hn₁.at' (h' := h₂) fun o e => hs₂.extBut _ o (Ne.symm hne) e
    refine v_store X X.b (s := { s with heap := h₂, toks := _ }) hn₂ fun h₃ hn₃ hs₃ => ?_
    have itr₃ := iter_at (h' := h₃) itr₂ fun o e => hs₃.extBut _ o hne e
    have since₃ : ∀ tk, Since [env.locals, it] s₀ { s with heap := h₃, toks := tk } := fun tk => (since₁ s.toks).step fun a o ha e => hs₃.extBut a o (fun z => ha (z ▸ .head _)) (hs₂.extBut a o (fun z => ha (z ▸ .tail _ (.head _))) e)
    refine wpAny_execs_cons (wpAny_AugAssign_Name (wpAny_loadName_local (s := { s with heap := h₃, toks := _ }) X.kind X.val hn₃ (by rw [if_neg (by decide), if_pos rfl]) (wpAny_BinOp (v_name (s := { s with heap := h₃, toks := _ }) X X.b hn₃ (if_pos rfl) (by decide) (wpAny_Constant_int (and_int (ior_int ?_)))))))
    have e1 : (val : Int) * 2 ^ (6 : Int).toNat = ((val * 64 : Nat) : Int) := by
      have : (2 : Int) ^ (6 : Int).toNat = 64 := by decide
      rw [this]; omega
    rw [e1, show ((63 : Int)) = ((63 : Nat) : Int) from rfl, bitAnd_nat, bitOr_nat]
    refine v_store X X.val (s := { s with heap := h₃, toks := _ }) hn₃ fun h₄ hn₄ hs₄ => ?_
    refine wpAny_execs_nil ⟨r.length, Nat.lt_succ_self _, pos' + 1, r, u.toNat, _, k₂, rfl, hr', hg, (show pos' + 1 + k₂ = pos + k by rw [← hk]; exact Nat.add_right_comm pos' 1 k₂), (since₃ s.toks).step fun a o ha e => hs₄.extBut a o (fun z => ha (z ▸ .head _)) e, vns hn₄ ?_ ⟨_, (if_neg (by decide)).trans (if_pos rfl)⟩ ⟨_, if_pos rfl⟩, iter_at itr₃ fun o e => hs₄.extBut _ o hne e⟩
    rw [if_neg (by decide), if_neg (by decide), if_neg (by decide)]; exact m1
end
end Mine

-- part 52
namespace Mine
section
variable {prog : Program} {w : World} {B : Heap} {C : Addr} {mg mb : Str → Option Value} {A : Around} {E : Value → Shared → Prop} {s : Shared} {data : Array UInt8} {t : Tok} {n : Nat}
theorem venv {cx : Cx} {K : PH} (at_ : At B C n varSc cx K A) : VEnv cx.env := by
  exact ⟨at_.env.kind, at_.kind var_kinds.1 nofun, at_.kind var_kinds.2.1 nofun, at_.kind var_kinds.2.2.1 nofun, at_.kind var_kinds.2.2.2 nofun, at_.env.glob, at_.env.blt⟩
theorem varint_in {a it : Addr} {pm cd doc : Value} {Q : Value → Shared → Prop} (D : BaseF B mg mb) (F : FnAt B a (fdOf "_parse_varint" pm cd doc)) (hA : AOk (n + 1) A) (hB : PH.Sub (ofHeap B) s.heap) (hBi : B.get? it = none)
    (h : ∀ (env : Env) (s₁ : Shared), VEnv env → env.frame = some env.locals → s.heap.get? env.locals = none → AOk n (A.deeper env) → (∀ b o, s.heap.get? b = some o → s₁.heap.get? b = some o) → Rest s s₁ → (∃ m, s₁.heap.Ns env.locals m ∧ m "iterator" = some (.ref it)) →
      wpAny (model prog w) (A.deeper env) (execs (topDf "_parse_varint").body env) (fun f s' => Q (match f with | .ret v => v | _ => .none) s') (fun e s' => wpAny (model prog w) (A.deeper env) (leaving env e) (fun _ s'' => E e s'') (fun e' s'' => E e' s'') s') s₁) :
    wpAny (model prog w) A (call (.ref a) [.ref it]) Q E s := by
  refine enter_of (n := n) (C := 0) (K := fun b => if b = it then none else s.heap.get? b) (g := fun _ => none) (vs := [.ref it]) D F (varint_sh pm cd doc) rfl hA hB (fun b o e => ?_) (fun b o e => ?_) (fun b o e => by cases e) (.cons (.ref it) .nil) fun cx s₁ hvars _ hfr hsc hP hkeep hrest at_ I => ?_
  · exact (if_neg (ne_of hBi e)).trans (hB b o e)
  · by_cases hb : b = it
    · exact nos (if_pos hb) e
    · exact (if_neg hb).symm.trans e
  · exact h cx.env s₁ (venv at_) hfr (hP _ I.lp) at_.a hkeep hrest ((I.slot 0 "iterator" (by rw [hvars]; rfl)).1.loc (venv at_).it)
theorem varint_ok {a it : Addr} {pm cd doc : Value} {Q : Value → Shared → Prop} {pos c v k : Nat} {r : List Nat} (D : BaseF B mg mb) (F : FnAt B a (fdOf "_parse_varint" pm cd doc)) (hA : AOk (n + 1) A) (hB : PH.Sub (ofHeap B) s.heap) (hBi : B.get? it = none) (hit : KBw.IsBytesIter s.heap it data t pos)
    (hd : restAt data pos = c :: r) (hv : vgo r c (c &&& 63) = some (v, k))
    (hQ : ∀ s' t', Rest s s' → (∀ b o, b ≠ it → s.heap.get? b = some o → s'.heap.get? b = some o) → KBw.IsBytesIter s'.heap it data t (pos + 1 + k) → Q (.int v t') s') : wpAny (model prog w) A (call (.ref a) [.ref it]) Q E s := by
  refine varint_in D F hA hB hBi fun env s₁ X hfr hL hA' hkeep hrest hns => ?_
  obtain ⟨m, hn, m1⟩ := hns
  obtain ⟨p, hbody⟩ := varint_parts
  rw [hbody]
  obtain ⟨u, hu, hcu, hr⟩ := restAt_cons hd
  subst hcu
  have hit₁ := iter_at (h' := s₁.heap) hit fun o e => hkeep it o e
  have hne : it ≠ env.locals := fun e => hit.elim fun o h => nos hL (e ▸ h.1)
  have hBL : B.get? env.locals = none := nn fun o q => nos hL (hB _ o q)
  have hB₁ : PH.Sub (ofHeap B) s₁.heap := fun b o e => hkeep b o (hB b o e)
  refine wpAny_execs_cons (wpAny_Assign_Name (v_next D X hB₁ hn m1 (next_byte hit₁ hu fun h₂ itr₂ hs₂ => ?_)) rfl)
  have hn₂ := hn.at' (h' := h₂) fun o e => hs₂.extBut _ o (Ne.symm hne) e
  refine v_store X X.b (s := { s₁ with heap := h₂, toks := _ }) hn₂ fun h₃ hn₃ hs₃ => ?_
  have itr₃ := iter_at (h' := h₃) itr₂ fun o e => hs₃.extBut _ o hne e
  refine wpAny_execs_cons (wpAny_Assign_Name (wpAny_BinOp (v_name (s := { s₁ with heap := h₃, toks := _ }) X X.b hn₃ (if_pos rfl) (by decide) (wpAny_Constant_int (and_int ?_)))) rfl)
  rw [show ((63 : Int)) = ((63 : Nat) : Int) from rfl, bitAnd_nat]
  refine v_store X X.val (s := { s₁ with heap := h₃, toks := _ }) hn₃ fun h₄ hn₄ hs₄ => ?_
  have itr₄ := iter_at (h' := h₄) itr₃ fun o e => hs₄.extBut _ o hne e
  have sin : ∀ tk, Since [env.locals, it] s₁ { s₁ with heap := h₄, toks := tk } := fun tk => ⟨h₄, tk, rfl, fun a o ha e => hs₄.extBut a o (fun z => ha (z ▸ .head _)) (hs₃.extBut a o (fun z => ha (z ▸ .head _)) (hs₂.extBut a o (fun z => ha (z ▸ .tail _ (.head _))) e))⟩
  rw [← hr] at hv
  refine wpAny_execs_cons (wpAny_While (varint_loop (s₀ := s₁) (p := p) D X hB₁ hBL hBi hne hv ⟨sin _, vns hn₄ ?_ ⟨_, (if_neg (by decide)).trans (if_pos rfl)⟩ ⟨_, if_pos rfl⟩, itr₄⟩ fun b' s' V => ?_))
  · rw [if_neg (by decide), if_neg (by decide)]; exact m1
  · obtain ⟨m', t1, t2, hn', m1', m2', m3'⟩ := V.ns
    refine wpAny_execs_cons (wpAny_Return_some (v_name X X.val hn' m3' (by decide) ?_))
    obtain ⟨h', tk, rfl, hk⟩ := V.since
    exact hQ _ t2 (hrest.trans .of) (fun b o hb e => hk b o (fun hm => (List.mem_cons.mp hm).elim (fun q => nos hL (q ▸ e)) fun hm => hb (List.mem_singleton.mp hm)) (hkeep b o e)) V.itr
theorem varint_stop {a it : Addr} {pm cd doc : Value} {Q : Value → Shared → Prop} {pos : Nat} {outer : List Env} {base : Heap} (D : BaseF B mg mb) (F : FnAt B a (fdOf "_parse_varint" pm cd doc)) (hA : AOk (n + 1) A) (hB : PH.Sub (ofHeap B) s.heap) (hBi : B.get? it = none) (hit : KBw.IsBytesIter s.heap it data t pos)
    (hd : data[pos]? = none) (hfr : A.frames = some outer) (hbase : base.StaysIn s.heap) (hbi : base.get? it = none) (hff : s.heap.FunFrames base outer)
    (hE : ∀ h' s' e a0, Rest s s' → s'.heap = h' → Heap.FlyingW base outer e (.type "StopIteration") a0 h' → (∀ L m, s.heap.Ns L m → h'.Ns L m) → s.heap.get? e = none → E (.ref e) s') : wpAny (model prog w) A (call (.ref a) [.ref it]) Q E s := by
  refine varint_in D F hA hB hBi fun env s₁ X hfrm hL hA' hkeep hrest hns => ?_
  obtain ⟨m, hn, m1⟩ := hns
  obtain ⟨p, hbody⟩ := varint_parts
  rw [hbody]
  have hit₁ := iter_at (h' := s₁.heap) hit fun o e => hkeep it o e
  have hB₁ : PH.Sub (ofHeap B) s₁.heap := fun b o e => hkeep b o (hB b o e)
  have hbL : base.get? env.locals = none := nn fun o q => nos hL (hbase _ o q)
  refine wpAny_execs_cons (wpAny_Assign_Name (v_next D X hB₁ hn m1 (next_stop hA'.handled hit₁ hd fun h₂ e st => ?_)) rfl)
  obtain ⟨hk, ⟨oi, hoi⟩, he, ob, vs, a0, hoe, hcls, hdat, h1, h0⟩ := st
  have hne : env.locals ≠ it := fun q => hit.elim fun o h => nos hL (q ▸ h.1)
  have hfr' : (A.deeper env).frames = some (env :: outer) := Around.frames_deeper hfr
  have stay₁ : base.StaysIn h₂ := fun b o q => hk b o (ne_of hbi q) (hkeep b o (hbase b o q))
  have hen : base.get? e = none := nn fun o q => nos he (hkeep e o (hbase e o q))
  have ff₁ : h₂.FunFrames base (env :: outer) := by
    refine Heap.FunFrames.cons (L := env.locals) (by rw [X.kind]; decide) hfrm (hn.at' fun o q => hk _ o hne q) hbL ?_
    exact hff.of_keeps fun b o q hnf => ⟨o, hk b o (fun z => hit.elim fun o' h => hnf _ (soms (z ▸ h.1) q ▸ h.2.2)) (hkeep b o q), rfl⟩
  refine wpAny_leaving_firstW hfr' ff₁ hfrm hoe stay₁ hen hdat h1 h0 fun h' hl => ?_
  obtain ⟨k1, ⟨_, _, k2⟩, k3, k4⟩ := hl
  refine hE h' _ e a0 (hrest.trans .of) rfl ⟨k1, hen, k2, hcls ▸ k3⟩ (fun L m' hm' => ?_) ?_
  · obtain ⟨o, es, ep, ho, hdd, r⟩ := hm'
    have hLi : L ≠ it := fun q => hit.elim fun o' h => nomatch hdd.symm.trans ((congrArg Obj.data (soms ho (q ▸ h.1))).trans h.2.2)
    obtain ⟨sl, hs⟩ := k4 L o (hk L o hLi (hkeep L o ho)) fun vs q => nomatch hdd.symm.trans q
    exact ⟨_, es, ep, hs, hdd, r⟩
  · exact nn fun o q => nos he (hkeep e o q)
end
end Mine

-- part 53
namespace Mine
noncomputable def minus (h : Heap) : List Addr → Heap
  | [] => h
  | a :: r => (minus h r).update a fun _ => { cls := .none, data := .freed }
theorem minus_size (h : Heap) : ∀ X : List Addr, (minus h X).objs.size = h.objs.size
  | [] => rfl
  | a :: r => by unfold minus; rw [Heap.size_after_update, minus_size h r]
theorem minus_out {h : Heap} {b : Addr} : ∀ {X : List Addr}, b ∉ X → (minus h X).get? b = h.get? b
  | [], _ => rfl
  | a :: r, hb => by
    simp only [List.mem_cons, not_or] at hb
    unfold minus
    rw [Heap.get?_update_other _ _ (Ne.symm hb.1), minus_out hb.2]
theorem minus_in {h : Heap} {b : Addr} : ∀ {X : List Addr}, b ∈ X → (minus h X).get? b = none
  | a :: r, hb => by
    unfold minus
    by_cases e : b = a
    · subst e
      cases q : ((minus h r).update b fun _ => ({ cls := .none, data := .freed } : Obj)).get? b with
      | none => rfl
      | some o =>
        obtain ⟨h1, h2⟩ := Heap.get?_some_iff.mp q
        have : o = { cls := .none, data := .freed } := by
          unfold Heap.update at h1
          simp only [Array.getElem?_modify] at h1
          rw [if_pos trivial] at h1
          cases z : (minus h r).objs[b]? with
          | none => rw [z] at h1; cases h1
          | some o' => rw [z] at h1; simpa using h1.symm
        rw [this] at h2; cases h2
    · rcases List.mem_cons.mp hb with h | h
      · exact absurd h e
      · rw [Heap.get?_update_other _ _ (Ne.symm e), minus_in h]
theorem minus_stays {h h' : Heap} {X : List Addr} (hk : ∀ b o, b ∉ X → h.get? b = some o → h'.get? b = some o) : (minus h X).StaysIn h' := fun b o e => by
  by_cases hb : b ∈ X
  · rw [minus_in hb] at e; cases e
  · rw [minus_out hb] at e; exact hk b o hb e

section
variable {prog : Program} {w : World} {A : Around} {E : Value → Shared → Prop} {s : Shared} {env : Env}
theorem sub_stop_base : isSubtype (.type "StopIteration") (.type "BaseException") = pure true := by rw [isSubtype_type]; kernel_rfl
theorem sub_stop_stop : isSubtype (.type "StopIteration") (.type "StopIteration") = pure true := by rw [isSubtype_type]; kernel_rfl
theorem sub_stop_tuple : isSubtype (.type ((Manifest.find? "StopIteration").elim "type" fun y => y.metatype)) (.type "tuple") = pure false := isSubtype_of_subB (by decide +kernel)

theorem caught_loop {base : Heap} {outer : List Env} {e : Addr} {a0 : Value} {te : Expr} {suite : Stmt} {hp : Pos} {Q : Flow → Shared → Prop} (hfr : A.frames = some (env :: outer)) (hf : env.frame = some env.locals) (hfl : Heap.FlyingW base (env :: outer) e (.type "StopIteration") a0 s.heap)
    (hname : ∀ (s' : Shared) (E' : Value → Shared → Prop) (Q' : Value → Shared → Prop), base.StaysIn s'.heap → Q' (.type "StopIteration") s' → wpAny (model prog w) (A.mark (some (.ref e))) (eval te env) Q' E' s')
    (hq : ∀ h', base.StaysIn h' → (∀ L m, s.heap.Ns L m → h'.Ns L m) → ∀ E', wpAny (model prog w) (A.mark (some (.ref e))) (execs [suite] env) Q E' { s with heap := h' }) :
    notedBy (model prog w) A env (fun e' s' => cameBackBy (model prog w) A env (fun e s₁ => wpAny (model prog w) A (noteFrame e env) (fun _ s₂ => wpAny (model prog w) A (setFlight e none) (fun _ s₃ => wpAny (model prog w) A (handleBy e env [.ExceptHandler (some te) none [suite] hp]) Q E s₃) E s₂) E s₁) e' s') (.ref e) s := by
  unfold notedBy
  refine wpAny_looks_onW hfr hf hfl fun h₁ hh₁ u₁ => ?_
  unfold cameBackBy
  obtain ⟨k1, k2, k3, oe, vs, T, oT, ts, he, hc, hd, h1, hT, hTe, hoT, hdT, h3⟩ := hh₁
  refine wpAny_bind (wpAny_field he hd h1 ?_)
  rw [if_neg (show ¬ ((Value.ref T == Value.none) = true) from by simp)]
  rw [hf]
  try unfold setFlight
  have hsz3 : 3 < ts.size := (Array.getElem?_eq_some_iff.mp h3).1
  have other : ∀ b, b ≠ T → (h₁.update T (Obj.mapFields (·.setIfInBounds 3 ((some env.locals).elim Value.none fun f => rawInt f)))).get? b = h₁.get? b := fun b hb => Heap.get?_update_other _ _ (Ne.symm hb)
  have noRecord : ∀ b o, h₁.get? b = some o → (∀ vs, o.data ≠ .fields vs) → b ≠ T := fun b o hb hnf q => by
    rw [q, hoT] at hb; injection hb with hb; subst hb; exact hnf ts hdT
  refine wpAny_bind (wpAny_field he hd h1 ?_)
  rw [if_pos (show (Value.ref T != Value.none) = true from by simp)]
  refine wpAny_setField (s := { s with heap := h₁ }) hoT hdT hsz3 ?_
  have hheld : Heap.HeldW base (env :: outer) e (.type "StopIteration") a0 env.locals (h₁.update T (Obj.mapFields (·.setIfInBounds 3 ((some env.locals).elim Value.none fun f => rawInt f)))) :=
    ⟨fun b o hbo => (other b fun q => by rw [q, hT] at hbo; cases hbo).trans (k1 b o hbo), k2, k3.of_keeps fun b o hb hnf => ⟨o, (other b (noRecord b o hb hnf)).trans hb, rfl⟩, oe, vs, T, _, _, (other e (Ne.symm hTe)).trans he, hc, hd, h1, hT, hTe, Heap.get?_update_self _ hoT (Obj.isFreed_of_fields (Obj.data_mapFields hdT _)), Obj.data_mapFields hdT _, by simp [hsz3]⟩
  have u₂ : h₁.UpToSlots (h₁.update T (Obj.mapFields (·.setIfInBounds 3 ((some env.locals).elim Value.none fun f => rawInt f)))) := fun b o hb hnf => ⟨o.slots, (other b (noRecord b o hb hnf)).trans hb⟩
  refine wpAny_noteFrame_againW hf hheld.2.2.2 ?_
  refine wpAny_landsW (s := { s with heap := _ }) hheld fun h₃ hfl₃ u₃ => ?_
  obtain ⟨ob, hob, hobc⟩ := hfl₃.there
  refine wpAny_handleBy_builtin (X := "StopIteration") (T := "StopIteration") (b := true) sub_stop_base sub_stop_tuple sub_stop_stop (hname _ _ _ hfl₃.1 ⟨rfl, ⟨ob, hob, hobc⟩, ?_⟩)
  rw [if_pos rfl]
  refine wpAny_setFlight_noneW (s := { s with heap := h₃ }) hfl₃.1 hfl₃.2.2.1 hfl₃.2.2.2.at fun h₄ s1 s2 s3 s4 => ?_
  have u₄ : h₃.UpToSlots h₄ := fun b o hb hn => ⟨o.slots, s4 b o hb hn⟩
  exact hq h₄ s1 (fun L m hm => ((u₁.trans u₂).trans (u₃.trans u₄)).ns hm) _
end
end Mine

-- part 54
namespace Mine
noncomputable def vs_read : List Str := ["table", "octets", "start", "size", "told", "left", "entries"]
noncomputable def co_read_a : List CS := [.ownList 1 [], .for2 2 3 (.var 0) [.assign 4 (.bin .Add (.call 19 [.var 2]) (.call 19 [.var 3])), .ext 1 (.bin .Add (.lst [.bin .Add (.int 128) (.subv 4 (.int 0))]) (.slcv 4 (some (.int 1)) none none))]]
noncomputable abbrev readSc : Scope := (topDf "_law_read").scope
inductive ReadParts : Prop
  | mk (b0 b1 b3 : Stmt) (te : Expr) (p1 p2 p3 p4 p5 p6 p7 p8 p9 p10 p11 p12 p13 p14 p15 p16 p17 p18 p19 p20 p21 p22 p23 p24 p25 p26 p27 p28 p29 : Pos) (k1 : Nat)
    (hbody : (topDf "_law_read").body = [b0, b1, .Assign [.Name "left" p1] (.Call (.Name "iter" p2) [.Call (.Name "bytes" p3) [.Name "octets" p4] [] p5] [] p6) p7, b3,
      .Try [.While te [.Assign [.Name "start" p8] (.Call (.Name "_parse_varint" p9) [.Name "left" p10] [] p11) p12,
        .Expr (.Call (.Attribute (.Name "entries" p13) "append" p14) [.Tuple [.Name "start" p15, .Call (.Name "_parse_varint" p16) [.Name "left" p17] [] p18] k1 p19] [] p20) p21] [] p22]
        [.ExceptHandler (some (.Name "StopIteration" p23)) none [.Return (some (.Name "entries" p24)) p25] p26] [] [] p27, .Return (some (.List [] p28)) p29])
    (hline : p14.endLine = p20.line) (hca : chkSs glo readSc vs_read co_read_a [b0, b1] = true) (hcb : chkS glo readSc vs_read (.ownList 6 []) b3 = true) (hte : chkT glo readSc vs_read (.cmp .Lt (.lenv 6) (.int 5)) te = true) : ReadParts
theorem read_parts : ReadParts := by
  refine .mk _ _ _ _ _ _ _ _ _ _ _ _ _ _ _ _ _ _ _ _ _ _ _ _ _ _ _ _ _ _ _ _ _ _ rfl ?_ ?_ ?_ ?_ <;> decide +kernel
theorem read_sh (pm cd doc : Value) : FnSh0 (fdOf "_law_read" pm cd doc) (topDf "_law_read").body ["table"] ["octets", "start", "size", "told", "left", "entries"] := fnSh0_of rfl rfl (by decide +kernel) fun vals h => vals1 h fun _ => rfl
theorem read_v1 : isVar readSc vs_read 1 "octets" = true := by decide +kernel
theorem read_v2 : isVar readSc vs_read 2 "start" = true := by decide +kernel
theorem read_v5 : isVar readSc vs_read 5 "left" = true := by decide +kernel
theorem read_v6 : isVar readSc vs_read 6 "entries" = true := by decide +kernel
theorem read_s2 : isStore readSc vs_read 2 "start" = true := by decide +kernel
theorem read_s5 : isStore readSc vs_read 5 "left" = true := by decide +kernel
theorem read_gv : isGlob readSc "_parse_varint" = true := by decide +kernel
theorem read_bi : isBlt glo readSc "iter" "iter" = true := by decide +kernel
theorem read_bb : isBlt glo readSc "bytes" "bytes" = true := by decide +kernel
theorem read_bs : isBlt glo readSc "StopIteration" "StopIteration" = true := by decide +kernel
theorem read_kS : readSc.names.lookup ("StopIteration" : Str) = some .globalImplicit := by decide +kernel
theorem read_k6 : readSc.names.lookup ("entries" : Str) = some .local := by decide +kernel
noncomputable def ReadsTo (data : Array UInt8) : Nat → List (Nat × Nat) → Prop
  | pos, [] => data[pos]? = none
  | pos, (a, b) :: r => ∃ c r1 k c' r2 k', restAt data pos = c :: r1 ∧ vgo r1 c (c &&& 63) = some (a, k) ∧ restAt data (pos + 1 + k) = c' :: r2 ∧ vgo r2 c' (c' &&& 63) = some (b, k') ∧ ReadsTo data (pos + 1 + k + 1 + k') r
noncomputable def tblV (tbl : List (Nat × Nat)) : List V := tbl.map fun p => .tup [.int p.1, .int p.2]
section
variable {prog : Program} {w : World} {B : Heap} {C : Addr} {mg mb : Str → Option Value} {n : Nat} {Sp : Nat → List V → V → Prop}
variable {cx : Cx} {K g₀ g : PH} {s₀ s : Shared} {val : Nat → Value} {ρ : List Slot} {A : Around} {E : Value → Shared → Prop} {sc : Scope} {data : Array UInt8} {t : Tok}
structure Rd (cx : Cx) (K g₀ : PH) (s₀ : Shared) (it : Addr) (data : Array UInt8) (t : Tok) (pos : Nat) (val : Nat → Value) (ρ : List Slot) (g : PH) (s : Shared) : Prop where
  I : Inv cx (withK K [it] s.heap) g₀ s₀ val ρ g s
  itr : KBw.IsBytesIter s.heap it data t pos
theorem Rd.live {it : Addr} {pos : Nat} (R : Rd cx K g₀ s₀ it data t pos val ρ g s) : ∀ b ∈ [it], ∃ o, s.heap.get? b = some o := fun b hb => one_mem (P := fun b => ∃ o, s.heap.get? b = some o) hb (R.itr.elim fun o h => ⟨o, h.1⟩)
theorem Rd.next {it : Addr} {pos : Nat} {val' : Nat → Value} {ρ' : List Slot} {g' : PH} {s' : Shared} (R : Rd cx K g₀ s₀ it data t pos val ρ g s) (J : Inv cx (withK K [it] s.heap) g₀ s₀ val' ρ' g' s') : Rd cx K g₀ s₀ it data t pos val' ρ' g' s' :=
  have wk : ∀ b ∈ [it], ∀ o, s.heap.get? b = some o → s'.heap.get? b = some o := fun b hb o e => J.keep b o ((withK_in hb).trans e)
  ⟨(withK_same (K := K) wk R.live).symm ▸ J, iter_at R.itr fun o e => wk it (.head _) o e⟩
theorem Rd.turn {it : Addr} {pos pos' : Nat} {s' : Shared} (R : Rd cx K g₀ s₀ it data t pos val ρ g s) (hK : ∀ b ∈ [it], K b = none) (h0 : ∀ b ∈ [it], g₀ b = none) (hl : ∀ y c, cx.env.cells.lookup y = some c → c ∈ cx.P ∨ ∃ o, K c = some o) (hr : Rest s s') (hk : ∀ b o, b ≠ it → s.heap.get? b = some o → s'.heap.get? b = some o) (hit : KBw.IsBytesIter s'.heap it data t pos') : Rd cx K g₀ s₀ it data t pos' val ρ g s' :=
  have O := R.I.off R.live h0
  ⟨(R.I.dropK R.live h0 hK hl (fun b o hb e => hk b o (fun q => hb (List.mem_singleton.mpr q)) e) (R.I.rest.trans hr)).addK ⟨O.g, O.P, O.own⟩ fun b hb => one_mem (P := fun b => ∃ o, s'.heap.get? b = some o) hb (hit.elim fun o h => ⟨o, h.1⟩), hit⟩
theorem call_iter_bytes {Q : Value → Shared → Prop} (h : Q (.ref s.heap.objs.size) { s with heap := s.heap.push { cls := .type "bytes_iterator", data := .fields #[.bytes data t, .int 0 0] } }) : wpAny (model prog w) A (call (.builtin "iter") [.bytes data t]) Q E s := by
  refine call_function_entry (by decide +kernel) (by decide +kernel) kdk_entry_iter (kdk_args_iter _) ?_
  unfold Builtin.«iter»
  refine wpAny_bind (m := someArgs "iter" 1 2 _) (wpAny_of_eq (a := [Value.bytes data t]) (by first | rfl | kernel_rfl!) ?_)
  show wpAny _ _ (pyIter (.bytes data t) >>= _) _ _ _
  exact wpAny_bind (KBw.pyIter_bytes (wpAny_pure ⟨_, rfl, h⟩))
theorem call_varint {fv it : Addr} {f left : Str} {p1 p2 p3 : Pos} {Q : Value → Shared → Prop} (D : BaseF B mg mb) (hcl : Callee prog w B fv) (hmv : mg f = some (.ref fv)) (hg : isGlob sc f = true) (at_ : At B C n sc cx K A) (I : Inv cx K g₀ s₀ val ρ g s) (h5 : isVar sc cx.vars 5 left = true) (hd : ρ.getD 5 .undef = .fro (.ref it))
    (h : wpAny (model prog w) A (call (.ref fv) [.ref it]) Q E s) : wpAny (model prog w) A (eval (.Call (.Name f p1) [.Name left p2] [] p3) cx.env) Q E s := by
  rw [arm_eval_Call_Name']
  refine wpAny_bind (glob_fn D at_ (I.sub at_) hg hmv ?_)
  rw [backTo1 rfl]
  refine hcl A s E _ p3 [] _ (evalArgs_plain (spliced_cons (name_var (d := .ref it) at_ I h5 (by rw [hd]; rfl) (spliced_nil ⟨I.sub at_, ?_⟩))))
  exact ((I.fro (isVar_at h5) hd).2 : val 5 = .ref it) ▸ h
end
end Mine

-- part 55
namespace Mine
section
variable {prog : Program} {w : World} {B : Heap} {C : Addr} {mg mb : Str → Option Value} {n : Nat} {Sp : Nat → List V → V → Prop}
variable {cx : Cx} {K g₀ g : PH} {s₀ s : Shared} {val : Nat → Value} {ρ : List Slot} {A : Around} {E : Value → Shared → Prop} {data : Array UInt8} {t : Tok}
noncomputable def ReadEnd (cx : Cx) (K g₀ : PH) (s₀ : Shared) (L0 : Addr) (tbl : List (Nat × Nat)) (v : Value) (s' : Shared) : Prop :=
  ∃ g', PH.le g₀ g' ∧ Rep cx.C g' v (.list (tblV tbl)) ∧ (∀ b o, b ≠ L0 → K b = some o → s'.heap.get? b = some o) ∧ (∀ m, s₀.heap.Ns L0 m → s'.heap.Ns L0 m) ∧ (∀ b o, g' b = some o → s'.heap.get? b = some o) ∧ (∀ b o, g' b = some o → g₀ b = some o ∨ K b = none) ∧ Rest s₀ s'
inductive RdI (cx : Cx) (K g₀ : PH) (s₀ : Shared) (it : Addr) (data : Array UInt8) (t : Tok) (tb : V) (oc s2 s3 : Slot) (tbl : List (Nat × Nat)) (m : Nat) (s : Shared) : Prop
  | mk (val : Nat → Value) (g : PH) (pos : Nat) (done rest : List (Nat × Nat)) (s1 : Slot) (e : m = rest.length) (h : done ++ rest = tbl) (hr : ReadsTo data pos rest) (R : Rd cx K g₀ s₀ it data t pos val [.fro tb, oc, s1, s2, s3, .fro (.ref it), .own (tblV done)] g s) : RdI cx K g₀ s₀ it data t tb oc s2 s3 tbl m s
theorem lenV_tbl {tbl : List (Nat × Nat)} (h : tbl.length ≤ 4) : lenV (.list (tblV tbl)) = some (tbl.length : Int) := by
  have e : (tblV tbl).length = tbl.length := List.length_map ..
  exact (if_pos (e.symm ▸ Nat.le_trans h (by decide))).trans (congrArg (fun n : Nat => some (n : Int)) e)
theorem read_end {fv it L0 : Addr} {env0 : Env} {pm cd doc : Value} {p8 p9 p10 p11 p12 p23 p24 p25 p26 : Pos} {tb : V} {oc : Slot} {tbl : List (Nat × Nat)} {Q : Flow → Shared → Prop} {EE : Value → Shared → Prop} {s1 s2 s3 : Slot} {pos : Nat} {more : List Stmt} {P : Flow → Shared → Prop} {EP : Value → Shared → Prop}
    (H : SndAll prog w B C mg mb (n + 1) Sp) (Fv : FnAt B fv (fdOf "_parse_varint" pm cd doc)) (hmv : mg "_parse_varint" = some (.ref fv)) (at_ : At B C (n + 1) readSc cx K A) (v5 : isVar readSc cx.vars 5 "left" = true) (v6 : isVar readSc cx.vars 6 "entries" = true)
    (hfr : A.frames = some [cx.env, env0]) (hf : cx.env.frame = some cx.env.locals) (hf0 : env0.frame = some L0) (hk0 : env0.scope.kind ≠ .module) (hns0 : ∃ m, s₀.heap.Ns L0 m) (hKs : K = ofHeap s₀.heap) (hg0 : g₀ L0 = none) (hB0 : B.get? L0 = none)
    (hBi : B.get? it = none) (hK : ∀ b ∈ [it], K b = none) (h0 : ∀ b ∈ [it], g₀ b = none) (hr : data[pos]? = none)
    (R₁ : Rd cx K g₀ s₀ it data t pos val [.fro tb, oc, s1, s2, s3, .fro (.ref it), .own (tblV tbl)] g s) (hQ : ∀ v s', ReadEnd cx K g₀ s₀ L0 tbl v s' → Q (.ret v) s')
    (hEP : ∀ e s', notedBy (model prog w) A cx.env (fun e' s' => cameBackBy (model prog w) A cx.env (fun e s₁ => wpAny (model prog w) A (noteFrame e cx.env) (fun _ s₂ => wpAny (model prog w) A (setFlight e none) (fun _ s₃ => wpAny (model prog w) A (handleBy e cx.env [.ExceptHandler (some (.Name "StopIteration" p23)) none [.Return (some (.Name "entries" p24)) p25] p26]) Q EE s₃) EE s₂) EE s₁) e' s') (.ref e) s' → EP (.ref e) s') :
    wpAny (model prog w) A (execs (.Assign [.Name "start" p8] (.Call (.Name "_parse_varint" p9) [.Name "left" p10] [] p11) p12 :: more) cx.env) P
      EP s := by
  have D := H.S.base
  have hcl := callee_fn (prog := prog) (w := w) Fv
  have at₁ := at_.addK (X := [it]) (h := s.heap) hK
  have lv := R₁.live
  have O := R₁.I.off lv h0
  have hLP := R₁.I.priv _ R₁.I.lp
  have Kof : ∀ {b o}, s₀.heap.get? b = some o → K b = some o := fun e => hKs ▸ e
  have keep₀ : ∀ b o, s₀.heap.get? b = some o → s.heap.get? b = some o := fun b o e => R₁.I.keep b o ((withK_out fun hb => nos (hK b hb) (Kof e)).trans (Kof e))
  obtain ⟨m0, hm0⟩ := hns0
  obtain ⟨mL, hmL⟩ := R₁.I.ns
  have e3 : ∀ {P : Addr → Prop}, P cx.env.locals → P L0 → P it → ∀ b ∈ [cx.env.locals, L0, it], P b := fun p1 p2 p3 b hb => (List.mem_cons.mp hb).elim (fun e => e ▸ p1) fun hb => mem2 hb p2 p3
  have i1 : cx.env.locals ∈ [cx.env.locals, L0, it] := .head _
  have i2 : L0 ∈ [cx.env.locals, L0, it] := .tail _ (.head _)
  have i3 : it ∈ [cx.env.locals, L0, it] := .tail _ (.tail _ (.head _))
  have stay : (minus s.heap [cx.env.locals, L0, it]).StaysIn s.heap := minus_stays fun _ _ _ e => e
  have ff : s.heap.FunFrames (minus s.heap [cx.env.locals, L0, it]) [cx.env, env0] := .cons (L := cx.env.locals) (by rw [at_.env.kind]; decide) hf hmL (minus_in i1) (.cons (L := L0) hk0 hf0 (hm0.keeps keep₀) (minus_in i2) trivial)
  refine wpAny_execs_cons (wpAny_Assign_Name (call_varint D hcl hmv read_gv at₁ R₁.I v5 rfl ?_) rfl)
  refine varint_stop (n := n) (base := minus s.heap [cx.env.locals, L0, it]) D Fv at_.a (R₁.I.sub at₁) hBi R₁.itr hr hfr stay (minus_in i3) ff fun h' s' e a0 hrest hh' hfl hns he => ?_
  subst hh'
  refine hEP _ _ (caught_loop hfr hf hfl (fun s'' E' Q' hst hq => ?_) (fun h'' hst hns' E' => ?_))
  · -- the name StopIteration
    have hBs : PH.Sub (ofHeap B) s''.heap := fun b o e => hst b o ((minus_out fun hm => nos (e3 (P := fun b => ofHeap B b = none) (nn fun o q => nos hLP.2.1 (at₁.sub _ o q)) hB0 hBi b hm) e).trans (R₁.I.sub at₁ b o e))
    exact Name_function_global at_.env.kind (at_.kind read_kS nofun) (loadGlobal_builtin (mg := mg) (mb := mb) (by rw [at_.env.glob]; exact D.g.keeps hBs) (D.free _ (by decide)) (by rw [at_.env.blt]; exact D.b.keeps hBs) ((D.builtins _ (by decide)).trans (by decide +kernel)) hq) (by decide)
  · -- return entries
    have k6 := at_.kind read_k6 nofun
    refine ((R₁.I.slot 6 _ (isVar_at v6)).1.loc k6).elim fun m6 h6 => ?_
    obtain ⟨gf, lf, If, rf⟩ := R₁.I.freeze (isVar_at v6) rfl
    refine wpAny_execs_cons (wpAny_Return_some (wpAny_Name (wpAny_loadName_local at_.env.kind k6 (hns' _ _ (hns _ _ h6.1)) h6.2 ?_) (by decide)))
    have Of := If.off lv h0
    have notX : ∀ b ∈ [cx.env.locals, L0, it], gf b = none := e3 (If.priv _ If.lp).1 (nn fun o e => (If.new _ o e).elim (nos hg0) fun z => (Ns.live hm0).elim fun o' ho => nos (withK_not lv z).2 (Kof ho)) (Of.g _ (.head _))
    refine hQ _ _ ⟨gf, If.le₀, rf, fun b o hb e => ?_, fun m hm => hns' _ _ (hns _ _ (hm.keeps keep₀)), fun b o e => hst b o ((minus_out fun hm => nos (notX b hm) e).trans (If.frz b o e)), fun b o e => (If.new b o e).imp id fun z => (withK_not lv z).2, R₁.I.rest.trans (hrest.trans .of)⟩
    have hbit : b ∉ [it] := fun hm => nos (hK b hm) e
    have kb := (withK_out (h := s.heap) hbit).trans e
    exact hst b o ((minus_out fun hm => (List.mem_cons.mp hm).elim (fun q => nos hLP.2.1 (q ▸ kb)) fun hm => (List.mem_cons.mp hm).elim hb hbit).trans (R₁.I.keep b o kb))
theorem read_more {fv it : Addr} {pm cd doc : Value} {p8 p9 p10 p11 p12 p13 p14 p15 p16 p17 p18 p19 p20 p21 : Pos} {k1 : Nat} {tb : V} {oc : Slot} {tbl done rest : List (Nat × Nat)} {a b : Nat} {s1 s2 s3 : Slot} {pos : Nat} {P : Flow → Shared → Prop} {EP : Value → Shared → Prop}
    (H : SndAll prog w B C mg mb (n + 1) Sp) (Fv : FnAt B fv (fdOf "_parse_varint" pm cd doc)) (hmv : mg "_parse_varint" = some (.ref fv)) (at_ : At B C (n + 1) readSc cx K A) (hvars : cx.vars = vs_read) (hl : p14.endLine = p20.line)
    (hBi : B.get? it = none) (hK : ∀ b ∈ [it], K b = none) (h0 : ∀ b ∈ [it], g₀ b = none) (hlen : done.length ≤ 4) (hdr : done ++ (a, b) :: rest = tbl) (hr : ReadsTo data pos ((a, b) :: rest))
    (R₁ : Rd cx K g₀ s₀ it data t pos val [.fro tb, oc, s1, s2, s3, .fro (.ref it), .own (tblV done)] g s)
    (hP : ∀ s', RdI cx K g₀ s₀ it data t tb oc s2 s3 tbl rest.length s' → P .next s') :
    wpAny (model prog w) A (execs [.Assign [.Name "start" p8] (.Call (.Name "_parse_varint" p9) [.Name "left" p10] [] p11) p12,
        .Expr (.Call (.Attribute (.Name "entries" p13) "append" p14) [.Tuple [.Name "start" p15, .Call (.Name "_parse_varint" p16) [.Name "left" p17] [] p18] k1 p19] [] p20) p21] cx.env) P EP s := by
  have D := H.S.base
  have hcl := callee_fn (prog := prog) (w := w) Fv
  have v2 : isVar readSc cx.vars 2 "start" = true := by rw [hvars]; exact read_v2
  have v5 : isVar readSc cx.vars 5 "left" = true := by rw [hvars]; exact read_v5
  have v6 : isVar readSc cx.vars 6 "entries" = true := by rw [hvars]; exact read_v6
  have st2 : isStore readSc cx.vars 2 "start" = true := by rw [hvars]; exact read_s2
  have at₁ := at_.addK (X := [it]) (h := s.heap) hK
  obtain ⟨c, r1, k, c', r2, k', e1, e2, e3, e4, hr'⟩ := hr
  refine wpAny_execs_cons (wpAny_Assign_Name (call_varint D hcl hmv read_gv at₁ R₁.I v5 rfl (varint_ok (n := n) D Fv at_.a (R₁.I.sub at₁) hBi R₁.itr e1 e2 fun s₂ t₂ hrest₂ hk₂ hit₂ => ?_)) rfl)
  have R₂ := R₁.turn hK h0 at_.lives hrest₂ hk₂ hit₂
  refine store_ok (sl := .fro (.int a)) (at_.addK (X := [it]) (h := s₂.heap) hK) R₂.I st2 (show Rep cx.C g (.int a t₂) (.int a) from .int _ _) fun s₃ I₃ => ?_
  have R₃ : Rd cx K g₀ s₀ it data t _ _ [.fro tb, oc, .fro (.int a), s2, s3, .fro (.ref it), .own (tblV done)] g s₃ := R₂.next I₃
  have at₃ := at_.addK (X := [it]) (h := s₃.heap) hK
  refine R₃.I.own (isVar_at v6) rfl fun la lvs lk O => ?_
  refine wpAny_execs_cons (wpAny_Expr ?_ (by unfold interactive; rw [at_.env.kind]; rfl) rfl)
  refine wpAny_Call_method_late (base_of rfl) (few_of (backTo1 rfl) rfl (by decide : 1 < 16)) (beq_iff_eq.mpr hl) (backTo1 rfl) (name_var (d := .list (tblV done)) at₃ R₃.I v6 rfl ?_)
  rw [O.val]
  refine ⟨"list", "list.append", PySem.F.plainAttrs_list, slot_list_append, PySem.F.type_list_append, ⟨_, O.obj, rfl⟩, fun b hb => Value.ref.inj hb ▸ ⟨_, O.obj, rfl⟩, callWith_builtin rfl (evalArgs_plain (spliced_cons ?_))⟩
  rw [arm_eval_Tuple]
  refine wpAny_bind (wpAny_standAt (wpAny_bind ?_))
  rw [star1 rfl, star1 rfl]
  refine spliced_cons (name_var (d := .int a) at₃ R₃.I v2 rfl ?_)
  refine spliced_cons (call_varint D hcl hmv read_gv at₃ R₃.I v5 rfl (varint_ok (n := n) D Fv at_.a (R₃.I.sub at₃) hBi R₃.itr e3 e4 fun s₄ t₄ hrest₄ hk₄ hit₄ => spliced_nil ?_))
  have R₄ := R₃.turn hK h0 at_.lives hrest₄ hk₄ hit₄
  refine wpAny_newTuple ?_ (size_ok (by decide : 2 ≤ 1048576))
  have R₅ := R₄.next (R₄.I.ext (Ext.push (o := tupObj [updV val 2 (.int a t₂) 2, .int b t₄] 0) (tk := s₄.toks) R₄.I.frz R₄.I.gL R₄.I.ltL rfl))
  have rep : Rep cx.C (g.put s₄.heap.objs.size (tupObj [updV val 2 (.int a t₂) 2, .int b t₄] 0)) (.ref s₄.heap.objs.size) (.tup [.int a, .int b]) := .tup (PH.put_self ..) (.cons (.int _ _) (.cons (.int _ _) .nil))
  refine spliced_nil (R₅.I.own (isVar_at v6) rfl fun la' lvs' lk' O' => ?_)
  obtain rfl : la = la' := Value.ref.inj (O.val.symm.trans O'.val)
  have hll : lvs'.length = done.length := O'.reps.length.trans (List.length_map ..)
  refine wpAny_list_append_plain (s := { s₄ with heap := s₄.heap.push (tupObj [updV val 2 (.int a t₂) 2, .int b t₄] 0) }) ⟨lk', O'.obj⟩ (fun h' hp' hs' => hp'.elim fun k'' hk'' => ?_) (size_ok (n := lvs'.length) (hll ▸ Nat.le_trans hlen (by decide)))
  have J := R₅.I.setOwn2 (vs' := lvs' ++ [.ref s₄.heap.objs.size]) (k' := k'') (tk := s₄.toks) (isVar_at v6) rfl O'.val (fun b o hb e => hs'.extBut b o hb e) (hk''.trans (by rw [List.push_toArray]; rfl)) (O'.reps.append (.one rep))
  have R₆ := R₅.next J
  have e7 : tblV done ++ [.tup [.int a, .int b]] = tblV (done ++ [(a, b)]) := (show (done ++ [(a, b)]).map (fun p => V.tup [.int p.1, .int p.2]) = _ from List.map_append ..).symm
  rw [e7] at R₆
  exact wpAny_execs_nil (hP _ ⟨_, _, _, done ++ [(a, b)], rest, .fro (.int a), rfl, (List.append_assoc ..).trans hdr, hr', R₆⟩)
theorem read_turn {fv it L0 : Addr} {env0 : Env} {pm cd doc : Value} {te : Expr} {p8 p9 p10 p11 p12 p13 p14 p15 p16 p17 p18 p19 p20 p21 p23 p24 p25 p26 : Pos} {k1 : Nat} {tb : V} {oc : Slot} {tbl : List (Nat × Nat)} {Q : Flow → Shared → Prop} {EE : Value → Shared → Prop} {s2 s3 : Slot} {m : Nat} {P : Flow → Shared → Prop} {EP EF : Value → Shared → Prop} {F : Shared → Prop}
    (H : SndAll prog w B C mg mb (n + 1) Sp) (Fv : FnAt B fv (fdOf "_parse_varint" pm cd doc)) (hmv : mg "_parse_varint" = some (.ref fv)) (at_ : At B C (n + 1) readSc cx K A) (hvars : cx.vars = vs_read) (hl : p14.endLine = p20.line) (hte : chkT glo readSc vs_read (.cmp .Lt (.lenv 6) (.int 5)) te = true)
    (hfr : A.frames = some [cx.env, env0]) (hf : cx.env.frame = some cx.env.locals) (hf0 : env0.frame = some L0) (hk0 : env0.scope.kind ≠ .module) (hns0 : ∃ m, s₀.heap.Ns L0 m) (hKs : K = ofHeap s₀.heap) (hg0 : g₀ L0 = none) (hB0 : B.get? L0 = none)
    (hBi : B.get? it = none) (hK : ∀ b ∈ [it], K b = none) (h0 : ∀ b ∈ [it], g₀ b = none) (htl : tbl.length ≤ 4) (hR : RdI cx K g₀ s₀ it data t tb oc s2 s3 tbl m s) (hQ : ∀ v s', ReadEnd cx K g₀ s₀ L0 tbl v s' → Q (.ret v) s')
    (hP : ∀ k s', k < m → RdI cx K g₀ s₀ it data t tb oc s2 s3 tbl k s' → P .next s')
    (hEP : ∀ e s', notedBy (model prog w) A cx.env (fun e' s' => cameBackBy (model prog w) A cx.env (fun e s₁ => wpAny (model prog w) A (noteFrame e cx.env) (fun _ s₂ => wpAny (model prog w) A (setFlight e none) (fun _ s₃ => wpAny (model prog w) A (handleBy e cx.env [.ExceptHandler (some (.Name "StopIteration" p23)) none [.Return (some (.Name "entries" p24)) p25] p26]) Q EE s₃) EE s₂) EE s₁) e' s') (.ref e) s' → EP (.ref e) s') :
    wpAny (model prog w) A (PySem.isTrue te cx.env (eval te cx.env)) (fun x s => if x = true then wpAny (model prog w) A (execs [.Assign [.Name "start" p8] (.Call (.Name "_parse_varint" p9) [.Name "left" p10] [] p11) p12,
        .Expr (.Call (.Attribute (.Name "entries" p13) "append" p14) [.Tuple [.Name "start" p15, .Call (.Name "_parse_varint" p16) [.Name "left" p17] [] p18] k1 p19] [] p20) p21] cx.env) P EP s else F s) EF s := by
  have v5 : isVar readSc cx.vars 5 "left" = true := by rw [hvars]; exact read_v5
  have v6 : isVar readSc cx.vars 6 "entries" = true := by rw [hvars]; exact read_v6
  obtain ⟨val, g, pos, done, rest, s1, rfl, hdr, hr, R⟩ := hR
  have hlen : done.length + rest.length ≤ 4 := by rw [← List.length_append, hdr]; exact htl
  have hd4 : done.length ≤ 4 := Nat.le_trans (Nat.le_add_right ..) hlen
  refine wpAny_mono (sndT H.S H.srt (.cmp .Lt (.lenv 6) (.int 5)) _ _ _ _ _ _ _ _ _ _ _ (fun b ρ' => b = true ∧ ρ' = [.fro tb, oc, s1, s2, s3, .fro (.ref it), .own (tblV done)]) _ (by rw [hvars]; exact hte) (at_.addK (X := [it]) (h := s.heap) hK) R.I ?_) (fun x s₁ pb => ?_) fun _ _ e => e
  · exact e_cmp (e_lenv (n := (done.length : Int)) rfl rfl (lenV_tbl hd4) (e_int (c_lt ⟨_, rfl, decide_eq_true (Int.ofNat_lt.mpr (Nat.lt_succ_of_le hd4)), rfl⟩)))
  obtain ⟨ρ₁, g₁, ⟨rfl, rfl⟩, I₁, l₁⟩ := pb
  show wpAny _ A (execs _ cx.env) _ _ _
  cases rest with
  | nil =>
    rw [List.append_nil] at hdr
    subst hdr
    exact read_end H Fv hmv at_ v5 v6 hfr hf hf0 hk0 hns0 hKs hg0 hB0 hBi hK h0 hr (R.next I₁) hQ hEP
  | cons ab rest => exact read_more H Fv hmv at_ hvars hl hBi hK h0 hd4 hdr hr (R.next I₁) fun s' h => hP _ s' (Nat.lt_succ_self _) h
theorem read_loop {fv it L0 : Addr} {env0 : Env} {pm cd doc : Value} {te : Expr} {p8 p9 p10 p11 p12 p13 p14 p15 p16 p17 p18 p19 p20 p21 p23 p24 p25 p26 : Pos} {k1 : Nat} {tb : V} {oc : Slot} {tbl : List (Nat × Nat)} {Q : Flow → Shared → Prop} {EE : Value → Shared → Prop} {s1 s2 s3 : Slot} {pos : Nat}
    (H : SndAll prog w B C mg mb (n + 1) Sp) (Fv : FnAt B fv (fdOf "_parse_varint" pm cd doc)) (hmv : mg "_parse_varint" = some (.ref fv)) (at_ : At B C (n + 1) readSc cx K A) (hvars : cx.vars = vs_read) (hl : p14.endLine = p20.line) (hte : chkT glo readSc vs_read (.cmp .Lt (.lenv 6) (.int 5)) te = true)
    (hfr : A.frames = some [cx.env, env0]) (hf : cx.env.frame = some cx.env.locals) (hf0 : env0.frame = some L0) (hk0 : env0.scope.kind ≠ .module) (hns0 : ∃ m, s₀.heap.Ns L0 m) (hKs : K = ofHeap s₀.heap) (hg0 : g₀ L0 = none) (hB0 : B.get? L0 = none)
    (hBi : B.get? it = none) (hK : ∀ b ∈ [it], K b = none) (h0 : ∀ b ∈ [it], g₀ b = none) (htl : tbl.length ≤ 4) (hr : ReadsTo data pos tbl)
    (R : Rd cx K g₀ s₀ it data t pos val [.fro tb, oc, s1, s2, s3, .fro (.ref it), .own []] g s)
    (hQ : ∀ v s', ReadEnd cx K g₀ s₀ L0 tbl v s' → Q (.ret v) s') :
    wpAny (model prog w) A (exec (.Try [.While te [.Assign [.Name "start" p8] (.Call (.Name "_parse_varint" p9) [.Name "left" p10] [] p11) p12,
        .Expr (.Call (.Attribute (.Name "entries" p13) "append" p14) [.Tuple [.Name "start" p15, .Call (.Name "_parse_varint" p16) [.Name "left" p17] [] p18] k1 p19] [] p20) p21] [] p22]
        [.ExceptHandler (some (.Name "StopIteration" p23)) none [.Return (some (.Name "entries" p24)) p25] p26] [] [] p27) cx.env) Q EE s := by
  refine wpAny_Try_except (wpAny_execs_cons (wpAny_While (codeAny_whileLoop (I := RdI cx K g₀ s₀ it data t tb oc s2 s3 tbl) (fun m s h => ?_) _ ⟨val, g, pos, [], tbl, s1, rfl, rfl, hr, R⟩)))
  exact read_turn H Fv hmv at_ hvars hl hte hfr hf hf0 hk0 hns0 hKs hg0 hB0 hBi hK h0 htl h hQ (fun k s' hk h => ⟨k, hk, h⟩) fun _ _ h => h
end
end Mine

-- part 56
namespace Mine
section
variable {prog : Program} {w : World} {B : Heap} {C : Addr} {mg mb : Str → Option Value} {n : Nat} {Sp : Nat → List V → V → Prop}
theorem prefix_ok {sc : Scope} {cx : Cx} {K g₀ : PH} {s₀ : Shared} {A : Around} {E : Value → Shared → Prop} {Q : Flow → Shared → Prop} {Qo : Out → Prop} {rest : List Stmt} (H : SndAll prog w B C mg mb n Sp) (at_ : At B C n sc cx K A) (hno : ∀ o, Qo o → ∃ ρ, o = .next ρ)
    (hq : ∀ val' ρ' g' s', Qo (.next ρ') → Inv cx K g₀ s₀ val' ρ' g' s' → wpAny (model prog w) A (execs rest cx.env) Q E s') :
    ∀ (cs : List CS) (st : List Stmt) (val : Nat → Value) (ρ : List Slot) (g : PH) (s : Shared), chkSs glo sc cx.vars cs st = true → Inv cx K g₀ s₀ val ρ g s → wpSs Sp cs ρ Qo → wpAny (model prog w) A (execs (st ++ rest) cx.env) Q E s
  | [], st, val, ρ, g, s, hc, I, hw => nil0_el (l := st) hc (hq _ _ _ _ hw I)
  | c :: cs, st, val, ρ, g, s, hc, I, hw => by
    refine unc_el (l := st) hc fun e es hc => ?_
    refine wpAny_execs_cons (wpAny_mono (sndS H c _ _ _ _ _ _ _ _ _ _ E _ _ (a1 hc) at_ I hw) (fun f s' p => ?_) fun _ _ e => e)
    obtain ⟨o, v', g', ho, ok⟩ := p
    revert ho
    exact ok.elim (fun ρ' J ho => prefix_ok H at_ hno hq cs es _ _ _ _ (a2 hc) J ho) (fun ρ' J ho => (hno _ ho).elim fun _ e => nomatch e) fun v d ρ' J r ho => (hno _ ho).elim fun _ e => nomatch e
noncomputable def ReadOk (prog : Program) (w : World) (B : Heap) (C : Addr) (n : Nat) (a : Addr) (tbl : List (Nat × Nat)) : Prop :=
  ∀ (A : Around) (s : Shared) (g : PH) (env0 : Env) (E : Value → Shared → Prop) (Q : Value → Shared → Prop) (cvs : List Value), AOk n A → A.frames = some [env0] → env0.frame = some env0.locals → env0.scope.kind ≠ .module → B.get? env0.locals = none → PH.Sub (ofHeap B) s.heap → Here env0.locals g s →
    Reps C g cvs [.list (tblV tbl)] → Back C env0.locals s g (.list (tblV tbl)) Q → wpAny (model prog w) A (call (.ref a) cvs) Q E s
theorem read_ok {a fv : Addr} {pm cd doc pm' cd' doc' : Value} {tbl : List (Nat × Nat)} {oct : List Nat} (H : SndAll prog w B C mg mb (n + 1) Sp) (F : FnAt B a (fdOf "_law_read" pm cd doc)) (Fv : FnAt B fv (fdOf "_parse_varint" pm' cd' doc')) (hmv : mg "_parse_varint" = some (.ref fv))
    (hvc : wpSs Sp co_read_a [.fro (.list (tblV tbl)), .undef, .undef, .undef, .undef, .undef, .undef] (fun o => ∃ s2 s3 s4, o = .next [.fro (.list (tblV tbl)), .own (intsV (oct.map Int.ofNat)), s2, s3, s4, .undef, .undef]))
    (hoct : ∀ x ∈ oct, x < 256) (holen : oct.length ≤ 1000) (htl : tbl.length ≤ 4) (hr : ReadsTo (PySem.byteArr (oct.map Int.ofNat)) 0 tbl) : ReadOk prog w B C (n + 2) a tbl := by
  intro A s g env0 E Q cvs hA hfr hf0 hk0 hB0 hB hH hrep hQ
  have D := H.S.base
  refine enter_of (n := n + 1) (K := ofHeap s.heap) (vs := [.list (tblV tbl)]) (g := g) D F (read_sh pm cd doc) rfl hA hB hB (fun _ _ e => e) hH.frz hrep fun cx s₁ hvars hCx hfrm hsc hP hkeep hrest at_ I => ?_
  have hvars : cx.vars = vs_read := hvars
  obtain ⟨b0, b1, b3, te, p1, p2, p3, p4, p5, p6, p7, p8, p9, p10, p11, p12, p13, p14, p15, p16, p17, p18, p19, p20, p21, p22, p23, p24, p25, p26, p27, p28, p29, k1, hbody, hline, hca, hcb, hte⟩ := read_parts
  rw [hbody]
  rw [← hvars] at hca hcb
  have v1 : isVar readSc cx.vars 1 "octets" = true := by rw [hvars]; exact read_v1
  have s5 : isStore readSc cx.vars 5 "left" = true := by rw [hvars]; exact read_s5
  have at_ : At B C (n + 1) readSc cx (ofHeap s.heap) (A.deeper cx.env) := at_
  refine prefix_ok (st := [b0, b1]) (rest := _ :: _) H at_ (fun o ho => let ⟨_, _, _, e⟩ := ho; ⟨_, e⟩) (fun val₂ ρ₂ g₂ s₂ hρ I₂ => ?_) co_read_a _ _ _ _ hca I hvc
  obtain ⟨x2, x3, x4, e⟩ := hρ
  cases e
  refine I₂.own (isVar_at v1) rfl fun la lvs lk O => ?_
  have hll : lvs.length = oct.length := O.reps.length.trans ((List.length_map ..).trans (List.length_map ..))
  have hB₂ := I₂.sub at_
  refine wpAny_execs_cons (wpAny_Assign_Name (call_blt1 (id := "iter") (fun Q hq => glob_name D at_ hB₂ read_bi (by decide) (by decide) (by decide +kernel) hq) rfl (call_typ1 (T := "bytes") (fun Q hq => glob_name D at_ hB₂ read_bb (by decide) (by decide) (by decide +kernel) hq) rfl (name_var (d := .list (intsV (oct.map Int.ofNat))) at_ I₂ v1 rfl ?_))) rfl)
  rw [O.val]
  refine call_bytes_ints (lst_is O.obj) O.reps.ints (fun x hx => (List.mem_map.mp hx).elim fun y h => h.2 ▸ ⟨Int.natCast_nonneg y, Int.ofNat_lt.mpr (hoct y h.1)⟩) (size_ok (hll ▸ Nat.le_trans holen (by decide))) at_.a.handled fun h₃ bt tk₃ hk₃ => ?_
  refine call_iter_bytes (s := { s₂ with heap := h₃, toks := tk₃ }) ?_
  have Ia := I₂.grow (s' := { s₂ with heap := h₃, toks := tk₃ }) hk₃ .of
  obtain ⟨hO, hKn, h0'⟩ := Ia.fresh (wr := [h₃.objs.size]) (fun b hb => one_mem (P := fun b => h₃.get? b = none) hb (fresh_size _))
  have Ib := Ia.grow (s' := { s₂ with heap := h₃.push { cls := .type "bytes_iterator", data := .fields #[.bytes (PySem.byteArr (oct.map Int.ofNat)) bt, .int 0 0] }, toks := tk₃ }) (fun b o e => Heap.get?_push_of_some _ e) .of
  have Ic := Ib.addK hO (fun b hb => List.mem_singleton.mp hb ▸ ⟨_, Heap.get?_push_size _ rfl⟩)
  have R₃ : Rd cx (ofHeap s.heap) g s h₃.objs.size (PySem.byteArr (oct.map Int.ofNat)) bt 0 val₂ _ g₂ { s₂ with heap := h₃.push { cls := .type "bytes_iterator", data := .fields #[.bytes (PySem.byteArr (oct.map Int.ofNat)) bt, .int 0 0] }, toks := tk₃ } := ⟨Ic, ⟨_, Heap.get?_push_size _ rfl, rfl, rfl⟩⟩
  have hBi : B.get? h₃.objs.size = none := nn fun o q => absurd (Heap.lt_size (hk₃ _ o (hB₂ _ o q))) (Nat.lt_irrefl _)
  refine store_ok (sl := .fro (.ref h₃.objs.size)) (at_.addK hKn) R₃.I s5 (Rep.ref (C := cx.C) (g := g₂) _) fun s₄ I₄ => ?_
  have R₄ := R₃.next I₄
  refine wpAny_execs_cons (wpAny_mono (sndS H (.ownList 6 []) _ _ _ _ _ _ _ _ _ _ _ (fun o => o = .next _) _ hcb (at_.addK hKn) R₄.I (s_ownList (es_nil rfl))) (fun f s₅ p => ?_) fun _ _ e => e)
  obtain ⟨o, val₅, g₅, rfl, ok⟩ := p
  cases f <;> first
    | exact False.elim ok
    | skip
  have R₅ := R₄.next ok
  obtain ⟨mL, hmL⟩ := hH.ns
  refine wpAny_execs_cons (read_loop (env0 := env0) (L0 := env0.locals) (tbl := tbl) (tb := .list (tblV tbl)) (oc := .own (intsV (oct.map Int.ofNat))) (s1 := x2) (s2 := x3) (s3 := x4) H Fv hmv at_ hvars hline hte (Around.frames_deeper hfr) hfrm hf0 hk0 ⟨mL, hmL⟩ rfl hH.gL hB0 hBi hKn h0' htl hr R₅ fun v s' hend => ?_)
  obtain ⟨g', h1, h2, h3, h4, h5, h6, h7⟩ := hend
  exact hQ v s' g' ⟨fun b o hb e => h3 b o hb e, h4, h1, h5, fun b o e => (h6 b o e).imp id fun z => ⟨fun q => (Ns.live hmL).elim fun o' ho' => nos z (q ▸ ho'), z⟩, h7⟩ (hCx ▸ h2)
end
end Mine

-- part 57
namespace Mine
noncomputable def eqL (f : V → V → Bool) (x y : List V) : Bool := x.length == y.length && (x.zip y).all fun c => f c.1 c.2
noncomputable def V.eqb : Nat → V → V → Bool
  | 0, a, b => (onInt a fun x => onInt b fun y => some (x == y)).getD false
  | n + 1, a, b => match a with
    | .int x => (onInt b fun y => some (x == y)).getD false
    | .list x => (onList b fun y => some (eqL (V.eqb n) x y)).getD false
    | .tup x => match b with
      | .tup y => eqL (V.eqb n) x y
      | _ => false
    | _ => false
theorem zip_all {α : Type} {f : α → α → Bool} {p q : α → Bool} (h : ∀ a b, p a = true → q b = true → (f a b = true ↔ a = b)) : ∀ (x y : List α), x.all p = true → y.all q = true → ((x.length == y.length && (x.zip y).all fun c => f c.1 c.2) = true ↔ x = y)
  | [], [], _, _ => ⟨fun _ => rfl, fun _ => rfl⟩
  | [], _ :: _, _, _ => ⟨fun h => (nomatch a1 h), nofun⟩
  | _ :: _, [], _, _ => ⟨fun h => (nomatch a1 h), nofun⟩
  | a :: x, b :: y, hp, hq => by
    have hp := Bool.and_eq_true_iff.mp (List.all_cons ▸ hp)
    have hq := Bool.and_eq_true_iff.mp (List.all_cons ▸ hq)
    have ih := zip_all h x y hp.2 hq.2
    have e := h a b hp.1 hq.1
    refine ⟨fun z => ?_, fun z => ?_⟩
    · have z2 := Bool.and_eq_true_iff.mp (List.all_cons ▸ a2 z)
      exact List.cons_eq_cons.mpr ⟨e.mp z2.1, ih.mp (Bool.and_eq_true_iff.mpr ⟨beq_iff_eq.mpr (Nat.succ.inj (beq_iff_eq.mp (a1 z))), z2.2⟩)⟩
    · obtain ⟨h1, h2⟩ := List.cons.inj z
      have z3 := ih.mpr h2
      exact Bool.and_eq_true_iff.mpr ⟨beq_iff_eq.mpr (congrArg Nat.succ (beq_iff_eq.mp (a1 z3))), (List.all_cons).trans (Bool.and_eq_true_iff.mpr ⟨e.mpr h1, a2 z3⟩)⟩
theorem plain0 {a : V} (h : V.plain 0 a = true) : ∃ i, a = .int i := by
  cases a <;> first | exact ⟨_, rfl⟩ | exact nomatch (show false = true from h)
theorem plainS {n : Nat} {a : V} (h : V.plain (n + 1) a = true) : (∃ i, a = .int i) ∨ (∃ l, a = .list l ∧ l.all (V.plain n) = true) ∨ ∃ l, a = .tup l ∧ l.all (V.plain n) = true := by
  cases a <;> first | exact .inl ⟨_, rfl⟩ | exact .inr (.inl ⟨_, rfl, h⟩) | exact .inr (.inr ⟨_, rfl, h⟩) | exact nomatch (show false = true from h)
theorem eqb_int {i j : Int} : (i == j) = true ↔ V.int i = .int j := ⟨fun h => congrArg V.int (eq_t h), fun h => beq_iff_eq.mpr (V.int.inj h)⟩
theorem eqb_iff : ∀ (n : Nat) (a b : V), V.plain n a = true → V.plain n b = true → (V.eqb n a b = true ↔ a = b)
  | 0, a, b, ha, hb => by
    obtain ⟨i, rfl⟩ := plain0 ha
    obtain ⟨j, rfl⟩ := plain0 hb
    exact eqb_int
  | n + 1, a, b, ha, hb => by
    have lc : ∀ {x y : List V}, x.all (V.plain n) = true → y.all (V.plain n) = true → (eqL (V.eqb n) x y = true ↔ x = y) := fun hx hy => zip_all (eqb_iff n) _ _ hx hy
    rcases plainS ha with ⟨i, rfl⟩ | ⟨x, rfl, hx⟩ | ⟨x, rfl, hx⟩ <;> rcases plainS hb with ⟨j, rfl⟩ | ⟨y, rfl, hy⟩ | ⟨y, rfl, hy⟩ <;> first
      | exact eqb_int
      | exact (lc hx hy).trans ⟨congrArg V.list, V.list.inj⟩
      | exact (lc hx hy).trans ⟨congrArg V.tup, V.tup.inj⟩
      | exact ⟨nofun, nofun⟩

noncomputable def cmpI (f : Int → Int → Bool) (a b : V) : Option Bool := onInt a fun x => onInt b fun y => some (f x y)
noncomputable def cmpF (op : CmpOp) (a b : V) : Option Bool := match op with
  | .Eq => cmpI (fun x y => x == y) a b
  | .NotEq => cmpI (fun x y => x != y) a b
  | .Lt => cmpI (fun x y => decide (x < y)) a b
  | .LtE => cmpI (fun x y => decide (x ≤ y)) a b
  | .Gt => cmpI (fun x y => decide (y < x)) a b
  | .GtE => cmpI (fun x y => decide (y ≤ x)) a b
  | _ => none
theorem cmpI_ok {f : Int → Int → Bool} {op : CmpOp} {a b : V} {r : Bool} (h : cmpI f a b = some r) (hf : ∀ x y r, cmpV op (.int x) (.int y) r ↔ r = f x y) {P : Bool → Prop} (hp : P r) : (∃ r, cmpV op a b r) ∧ ∀ r, cmpV op a b r → P r := by
  obtain ⟨x, rfl, h⟩ := onInt_inv (k := fun x => onInt b fun y => some (f x y)) h
  obtain ⟨y, rfl, h⟩ := onInt_inv (k := fun y => some (f x y)) h
  exact c_det (hf x y) (Option.some.inj h ▸ hp)
theorem cmpF_ok {op : CmpOp} {a b : V} {r : Bool} (h : cmpF op a b = some r) {P : Bool → Prop} (hp : P r) : (∃ r, cmpV op a b r) ∧ ∀ r, cmpV op a b r → P r := by
  cases op <;> first
    | exact cmpI_ok h (fun _ _ _ => Iff.rfl) hp
    | exact nos rfl h
theorem bindI {α β : Type} {o : Option α} {f : α → Option β} {r : β} {P : Prop} (h : o.bind f = some r) (k : ∀ p, o = some p → f p = some r → P) : P := (Option.bind_eq_some_iff.mp h).elim fun p h => k p h.1 h.2
theorem mapI {α β : Type} {o : Option α} {f : α → β} {r : β} {P : β → Prop} (h : o.map f = some r) (hr : P r) {R : Prop} (k : ∀ p, o = some p → P (f p) → R) : R := (Option.map_eq_some_iff.mp h).elim fun p h => k p h.1 (h.2 ▸ hr)
section
variable (call : Nat → List V → Option V)
noncomputable def itemsF (f : V → Option V) : List V → Option (List V)
  | [] => some []
  | x :: xs => (f x).bind fun y => (itemsF f xs).map fun ys => y :: ys
noncomputable def loadF (i : Nat) (ρ : List Slot) : Option (V × List Slot) := match ρ.getD i .undef with
  | .undef => none
  | .fro v => some (v, ρ)
  | .own l => some (.list l, ρ.set i (.fro (.list l)))
noncomputable abbrev ret (ρ : List Slot) (o : Option V) : Option (V × List Slot) := o.map fun r => (r, ρ)
noncomputable def when {α : Type} (a : Bool) (x : Option α) : Option α := match a with
  | true => x
  | false => none
noncomputable def wsF (v : V) : Bool := v.ctorIdx == 6
mutual
noncomputable def runE : CE → List Slot → Option (V × List Slot)
  | .bool b, ρ => some (.bool b, ρ)
  | .int i, ρ => some (.int i, ρ)
  | .var i, ρ => loadF i ρ
  | .bin op a b, ρ => (runE a ρ).bind fun p => (runE b p.2).bind fun q => ret q.2 (binV op p.1 q.1)
  | .neg a, ρ => (runE a ρ).bind fun p => ret p.2 (onInt p.1 fun i => some (.int (-i)))
  | .cmp op a b, ρ => (runE a ρ).bind fun p => (runE b p.2).bind fun q => ret q.2 ((cmpF op p.1 q.1).map .bool)
  | .mem no a x, ρ => (runE a ρ).bind fun p => (slotV (p.2.getD x .undef)).bind fun v => onList v fun l => when (V.plain 4 p.1 && (V.plain 4 (.list l) && decide (l.length ≤ 1048576))) (some (.bool (l.any (fun y => V.eqb 4 p.1 y) != no), p.2))
  | .bop op a b, ρ => (runE a ρ).bind fun p => onBool p.1 fun x => if x = (op == .Or) then some (.bool x, p.2) else (runE b p.2).bind fun q => onBool q.1 fun y => some (.bool y, q.2)
  | .ite t a b, ρ => (runE t ρ).bind fun p => onBool p.1 fun x => if x = true then runE a p.2 else runE b p.2
  | .lst l, ρ => (runEs l ρ).map fun p => (.list p.1, p.2)
  | .tup l, ρ => (runEs l ρ).map fun p => (.tup p.1, p.2)
  | .sub a i, ρ => (runE a ρ).bind fun p => (runE i p.2).bind fun q => ret q.2 (idxV p.1 q.1)
  | .subv x i, ρ => (slotV (ρ.getD x .undef)).bind fun _ => (runE i ρ).bind fun q => (slotV (q.2.getD x .undef)).bind fun a => ret q.2 (idxV a q.1)
  | .slcv x lo hi st, ρ => when st.isNone ((slotV (ρ.getD x .undef)).bind fun _ => (runO lo ρ).bind fun p => (runO hi p.2).bind fun q => (slotV (q.2.getD x .undef)).bind fun a => (partV p.1).bind fun l => (partV q.1).bind fun h => ret q.2 (sliceV a l h none))
  | .lenv x, ρ => (slotV (ρ.getD x .undef)).bind fun a => (lenV a).map fun n => (.int n, ρ)
  | .call f args, ρ => (runEs args ρ).bind fun p => ret p.2 (call f p.1)
  | .sum a, ρ => (runE a ρ).bind fun p => onList p.1 fun l => when (decide (l.length ≤ 1048576)) ((numsV l).map fun ns => (.int ns.sum, p.2))
  | .max a b, ρ => (runE a ρ).bind fun p => (runE b p.2).bind fun q => onInt p.1 fun x => onInt q.1 fun y => some (.int (if x < y then y else x), q.2)
  | .attr a f, ρ => (runE a ρ).bind fun p => ret p.2 (attrV p.1 f)
  | .mcall a m args, ρ => (runE a ρ).bind fun p => when (wsF p.1) ((runEs args p.2).bind fun q => ret q.2 (call m (p.1 :: q.1)))
  | .comp elt two it cond, ρ => when (!two && cond.isNone) ((runE it ρ).bind fun p => (iterV p.1).bind fun items => (itemsF (fun x => (runE elt ([.fro x] ++ frozen p.2)).map (·.1)) items).map fun r => (.list r, p.2))
  | .range a b c, ρ => (runE a ρ).bind fun p => (runE b p.2).bind fun q => (runE c q.2).bind fun r => onInt p.1 fun x => onInt q.1 fun y => onInt r.1 fun z => if 0 < z ∧ z < 1073741824 ∧ x.natAbs < 1073741824 ∧ y.natAbs < 1073741824 then some (.list (rangeV x y z), r.2) else none
  | _, _ => none
noncomputable def runEs : List CE → List Slot → Option (List V × List Slot)
  | [], ρ => some ([], ρ)
  | e :: r, ρ => (runE e ρ).bind fun p => (runEs r p.2).map fun q => (p.1 :: q.1, q.2)
noncomputable def runO : Option CE → List Slot → Option (V × List Slot)
  | none, ρ => some (.none, ρ)
  | some e, ρ => runE e ρ
end
end
section
variable {call : Nat → List V → Option V} {Sp : Nat → List V → V → Prop}
theorem items_ok {f : V → Option V} {F : V → (List V → Prop) → Prop} (hf : ∀ x y (R : List V → Prop), f x = some y → R [y] → F x R) : ∀ (xs acc ys : List V) (Q : List V → Prop), itemsF f xs = some ys → Q (acc ++ ys) → compL F xs acc Q
  | [], acc, ys, Q, h, hq => by
    obtain rfl : [] = ys := Option.some.inj h
    exact (List.append_nil acc ▸ hq : Q acc)
  | x :: xs, acc, ys, Q, h, hq => bindI h fun y h1 h => mapI (P := fun ys => Q (acc ++ ys)) h hq fun zs h3 hq => hf x y _ h1 (items_ok hf xs _ zs Q h3 (List.append_assoc acc [y] zs ▸ hq))
theorem whenI {α : Type} {a : Bool} {x : Option α} {r : α} (h : when a x = some r) : a = true ∧ x = some r := match a, h with
  | true, h => ⟨rfl, h⟩
theorem wsI {v : V} (h : wsF v = true) : ∃ n nt c b s, v = .ws n nt c b s := by
  cases v <;> first | exact ⟨_, _, _, _, _, rfl⟩ | exact nomatch h
noncomputable def ROk (call : Nat → List V → Option V) (Sp : Nat → List V → V → Prop) (c : CE) : Prop := ∀ (ρ : List Slot) (p : V × List Slot) (Q : V → List Slot → Prop), runE call c ρ = some p → Q p.1 p.2 → wpE Sp c ρ Q
noncomputable def RsOk (call : Nat → List V → Option V) (Sp : Nat → List V → V → Prop) (c : List CE) : Prop := ∀ (ρ : List Slot) (p : List V × List Slot) (Q : List V → List Slot → Prop), runEs call c ρ = some p → Q p.1 p.2 → wpEs Sp c ρ Q
noncomputable def RoOk (call : Nat → List V → Option V) (Sp : Nat → List V → V → Prop) (c : Option CE) : Prop := ∀ (ρ : List Slot) (p : V × List Slot) (Q : V → List Slot → Prop), runO call c ρ = some p → Q p.1 p.2 → wpO Sp c ρ Q
theorem r_no {c : CE} (h : ∀ ρ, runE call c ρ = none) : ROk call Sp c := fun ρ _ _ e _ => nos (h ρ) e
theorem r_val {c : CE} {v : V} (h : ∀ ρ, runE call c ρ = some (v, ρ)) (h' : ∀ ρ Q, Q v ρ → wpE Sp c ρ Q) : ROk call Sp c := fun ρ p Q e hq => h' ρ Q ((soms (h ρ) e).symm ▸ hq : Q (v, ρ).1 (v, ρ).2)
theorem r_var {i : Nat} : ROk call Sp (.var i) := fun ρ p Q h hq => by
  replace h : loadF i ρ = some p := h
  unfold loadF at h
  show (match ρ.getD i .undef with | .undef => False | .fro v => Q v ρ | .own l => Q (.list l) (ρ.set i (.fro (.list l))))
  revert h
  cases ρ.getD i .undef with
  | undef => exact fun h => nos rfl h
  | fro v => exact fun h => ((Option.some.inj h).symm ▸ hq : Q (v, ρ).1 (v, ρ).2)
  | own l => exact fun h => ((Option.some.inj h).symm ▸ hq : Q (V.list l, ρ.set i (.fro (.list l))).1 (V.list l, ρ.set i (.fro (.list l))).2)
theorem r_mem {no : Bool} {a : CE} {x : Nat} (iha : ROk call Sp a) : ROk call Sp (.mem no a x) := fun ρ p Q h hq => bindI h fun p1 h1 h => bindI h fun v hv h => by
  obtain ⟨l, rfl, h⟩ := onList_inv (k := fun l => when (V.plain 4 p1.1 && (V.plain 4 (.list l) && decide (l.length ≤ 1048576))) (some (V.bool (l.any (fun y => V.eqb 4 p1.1 y) != no), p1.2))) h
  obtain ⟨hp, h⟩ := whenI h
  have hq : Q (.bool (l.any (fun y => V.eqb 4 p1.1 y) != no)) p1.2 := ((Option.some.inj h).symm ▸ hq : Q (V.bool (l.any (fun y => V.eqb 4 p1.1 y) != no), p1.2).1 (V.bool (l.any (fun y => V.eqb 4 p1.1 y) != no), p1.2).2)
  have ev : ∀ y ∈ l, (V.eqb 4 p1.1 y = true ↔ p1.1 = y) := fun y hy => eqb_iff 4 _ _ (a1 hp) (plain_up (plain_all.mp (a1 (a2 hp)) y hy))
  refine iha _ _ _ h1 ⟨l, hv, a1 hp, a1 (a2 hp), of_decide_eq_true (a2 (a2 hp)), fun r hr => ?_⟩
  have e : r = l.any (fun y => V.eqb 4 p1.1 y) := Bool.eq_iff_iff.mpr (hr.trans ⟨fun hm => List.any_eq_true.mpr ⟨_, hm, (ev _ hm).mpr rfl⟩, fun z => (List.any_eq_true.mp z).elim fun y hy => (ev y hy.1).mp hy.2 ▸ hy.1⟩)
  exact e ▸ hq
theorem r_bop {op : BoolOp} {a b : CE} (iha : ROk call Sp a) (ihb : ROk call Sp b) : ROk call Sp (.bop op a b) := fun ρ p Q h hq => bindI h fun p1 h1 h => by
  obtain ⟨x, e, h⟩ := onBool_inv (k := fun x => if x = (op == .Or) then some (V.bool x, p1.2) else (runE call b p1.2).bind fun q => onBool q.1 fun y => some (V.bool y, q.2)) h
  by_cases hx : x = (op == .Or)
  · exact iha _ _ _ h1 ⟨x, e, fun _ => ((soms (if_pos hx) h).symm ▸ hq : Q (V.bool x, p1.2).1 (V.bool x, p1.2).2), fun hn => absurd hx hn⟩
  · refine bindI ((if_neg hx).symm.trans h) fun q h2 h => ?_
    obtain ⟨y, e2, h⟩ := onBool_inv (k := fun y => some (V.bool y, q.2)) h
    exact iha _ _ _ h1 ⟨x, e, fun hn => absurd hn hx, fun _ => ihb _ _ _ h2 ⟨y, e2, ((Option.some.inj h).symm ▸ hq : Q (V.bool y, q.2).1 (V.bool y, q.2).2)⟩⟩
theorem r_ite {t a b : CE} (iht : ROk call Sp t) (iha : ROk call Sp a) (ihb : ROk call Sp b) : ROk call Sp (.ite t a b) := fun ρ p Q h hq => bindI h fun p1 h1 h => by
  obtain ⟨x, e, h⟩ := onBool_inv (k := fun x => if x = true then runE call a p1.2 else runE call b p1.2) h
  cases x with
  | true => exact iht _ _ _ h1 ⟨true, e, fun _ => iha _ _ _ h hq, nofun⟩
  | false => exact iht _ _ _ h1 ⟨false, e, nofun, fun _ => ihb _ _ _ h hq⟩
theorem r_range {a b c : CE} (iha : ROk call Sp a) (ihb : ROk call Sp b) (ihc : ROk call Sp c) : ROk call Sp (.range a b c) := fun ρ p Q h hq => bindI h fun p1 h1 h => bindI h fun p2 h2 h => bindI h fun p3 h3 h => by
  obtain ⟨x, e1, h⟩ := onInt_inv (k := fun x => onInt p2.1 fun y => onInt p3.1 fun z => if 0 < z ∧ z < 1073741824 ∧ x.natAbs < 1073741824 ∧ y.natAbs < 1073741824 then some (V.list (rangeV x y z), p3.2) else none) h
  obtain ⟨y, e2, h⟩ := onInt_inv (k := fun y => onInt p3.1 fun z => if 0 < z ∧ z < 1073741824 ∧ x.natAbs < 1073741824 ∧ y.natAbs < 1073741824 then some (V.list (rangeV x y z), p3.2) else none) h
  obtain ⟨z, e3, h⟩ := onInt_inv (k := fun z => if 0 < z ∧ z < 1073741824 ∧ x.natAbs < 1073741824 ∧ y.natAbs < 1073741824 then some (V.list (rangeV x y z), p3.2) else none) h
  obtain ⟨hb, e⟩ := ite_some h
  exact iha _ _ _ h1 (ihb _ _ _ h2 (ihc _ _ _ h3 ⟨x, y, z, e1, e2, e3, hb, (e.symm ▸ hq : Q (V.list (rangeV x y z), p3.2).1 (V.list (rangeV x y z), p3.2).2)⟩))
theorem r_max {a b : CE} (iha : ROk call Sp a) (ihb : ROk call Sp b) : ROk call Sp (.max a b) := fun ρ p Q h hq => bindI h fun p1 h1 h => bindI h fun p2 h2 h => by
  obtain ⟨x, e1, h⟩ := onInt_inv (k := fun x => onInt p2.1 fun y => some (V.int (if x < y then y else x), p2.2)) h
  obtain ⟨y, e2, h⟩ := onInt_inv (k := fun y => some (V.int (if x < y then y else x), p2.2)) h
  exact iha _ _ _ h1 (ihb _ _ _ h2 ⟨x, y, e1, e2, ((Option.some.inj h).symm ▸ hq : Q (V.int (if x < y then y else x), p2.2).1 (V.int (if x < y then y else x), p2.2).2)⟩)
theorem r_sum {a : CE} (iha : ROk call Sp a) : ROk call Sp (.sum a) := fun ρ p Q h hq => bindI h fun p1 h1 h => by
  obtain ⟨l, e, h⟩ := onList_inv (k := fun l => when (decide (l.length ≤ 1048576)) ((numsV l).map fun ns => (V.int ns.sum, p1.2))) h
  obtain ⟨hl, h⟩ := whenI h
  exact mapI (P := fun p => Q p.1 p.2) h hq fun ns h2 hq => iha _ _ _ h1 ⟨l, ns, e, h2, of_decide_eq_true hl, hq⟩
theorem r_comp {elt it : CE} {two : Bool} {cond : Option CE} (ihe : ROk call Sp elt) (ihi : ROk call Sp it) : ROk call Sp (.comp elt two it cond) := fun ρ p Q h hq => by
  obtain ⟨hw, h⟩ := whenI h
  obtain rfl : two = false := not_t (a1 hw)
  cases cond with
  | some c => exact nomatch a2 hw
  | none => exact bindI h fun p1 h1 h => bindI h fun items h2 h => mapI (P := fun p => Q p.1 p.2) h hq fun r h3 hq => ihi _ _ _ h1 ⟨items, h2, items_ok (fun x y R hx hR => mapI (P := fun y => R [y]) hx hR fun z hz hR => ⟨fun _ => ihe _ _ _ hz hR, nofun⟩) _ _ _ _ h3 hq⟩
theorem r_slcv {x : Nat} {lo hi st : Option CE} (ihl : RoOk call Sp lo) (ihh : RoOk call Sp hi) : ROk call Sp (.slcv x lo hi st) := fun ρ p Q h hq => by
  obtain ⟨hw, h⟩ := whenI h
  cases st with
  | some c => exact nomatch hw
  | none => exact bindI h fun v hv h => bindI h fun p1 h1 h => bindI h fun p2 h2 h => bindI h fun a h3 h => bindI h fun l h4 h => bindI h fun u h5 h => mapI (P := fun p => Q p.1 p.2) h hq fun r h6 hq => ⟨fun z => nos z hv, ihl _ _ _ h1 (ihh _ _ _ h2 ⟨_, _, _, none, _, h3, h4, h5, rfl, h6, hq⟩)⟩
theorem runE_all (hc : ∀ f vs r, call f vs = some r → Sp f vs r) (c : CE) : ROk call Sp c := by
  refine CE.rec (motive_1 := ROk call Sp) (motive_2 := RsOk call Sp) (motive_3 := RoOk call Sp) ?_ ?_ ?_ ?_ ?_ ?_ ?_ ?_ ?_ ?_ ?_ ?_ ?_ ?_ ?_ ?_ ?_ ?_ ?_ ?_ ?_ ?_ ?_ ?_ ?_ ?_ ?_ ?_ ?_ ?_ ?_ ?_ ?_ ?_ ?_ ?_ ?_ ?_ c
  · exact r_no fun _ => rfl
  · exact fun b => r_val (fun _ => rfl) fun _ _ h => h
  · exact fun i => r_val (fun _ => rfl) fun _ _ h => h
  · exact fun x => r_no fun _ => rfl
  · exact fun i => r_var
  · exact fun op a b iha ihb ρ p Q h hq => bindI h fun p1 h1 h => bindI h fun p2 h2 h => mapI (P := fun p => Q p.1 p.2) h hq fun r h3 hq => iha _ _ _ h1 (ihb _ _ _ h2 ⟨_, h3, hq⟩)
  · exact fun a iha ρ p Q h hq => bindI h fun p1 h1 h => mapI (P := fun p => Q p.1 p.2) h hq fun r h3 hq => (onInt_inv h3).elim fun i e => iha _ _ _ h1 ⟨i, e.1, Option.some.inj e.2 ▸ hq⟩
  · exact fun op a b iha ihb ρ p Q h hq => bindI h fun p1 h1 h => bindI h fun p2 h2 h => mapI (P := fun p => Q p.1 p.2) h hq fun r h3 hq => mapI (P := fun r => Q r p2.2) h3 hq fun r h4 hq => iha _ _ _ h1 (ihb _ _ _ h2 (cmpF_ok (P := fun r => Q (.bool r) p2.2) h4 hq))
  · exact fun no a x iha => r_mem iha
  · exact fun x => r_no fun _ => rfl
  · exact fun op a b iha ihb => r_bop iha ihb
  · exact fun t a b iht iha ihb => r_ite iht iha ihb
  · exact fun l ih ρ p Q h hq => mapI (P := fun p => Q p.1 p.2) h hq fun p1 h1 hq => ih _ _ _ h1 hq
  · exact fun l ih ρ p Q h hq => mapI (P := fun p => Q p.1 p.2) h hq fun p1 h1 hq => ih _ _ _ h1 hq
  · exact fun a i iha ihi ρ p Q h hq => bindI h fun p1 h1 h => bindI h fun p2 h2 h => mapI (P := fun p => Q p.1 p.2) h hq fun r h3 hq => iha _ _ _ h1 (ihi _ _ _ h2 ⟨_, h3, hq⟩)
  · exact fun x i ihi ρ p Q h hq => bindI h fun v hv h => bindI h fun p2 h2 h => bindI h fun a h3 h => mapI (P := fun p => Q p.1 p.2) h hq fun r h4 hq => ⟨fun z => nos z hv, ihi _ _ _ h2 ⟨_, _, h3, h4, hq⟩⟩
  · exact fun a lo hi st _ _ _ _ => r_no fun _ => rfl
  · exact fun x lo hi st ihl ihh _ => r_slcv ihl ihh
  · exact fun a _ => r_no fun _ => rfl
  · exact fun x ρ p Q h hq => bindI h fun a h1 h => mapI (P := fun p => Q p.1 p.2) h hq fun n h2 hq => ⟨a, n, h1, h2, hq⟩
  · exact fun f args ih ρ p Q h hq => bindI h fun p1 h1 h => mapI (P := fun p => Q p.1 p.2) h hq fun r h2 hq => ih _ _ _ h1 ⟨_, hc _ _ _ h2, hq⟩
  · exact fun f x b _ => r_no fun _ => rfl
  · exact fun a b iha ihb => r_max iha ihb
  · exact fun a iha => r_sum iha
  · exact fun a _ => r_no fun _ => rfl
  · exact fun a _ => r_no fun _ => rfl
  · exact fun a b _ _ => r_no fun _ => rfl
  · exact fun a b _ _ => r_no fun _ => rfl
  · exact fun x => r_no fun _ => rfl
  · exact fun a f iha ρ p Q h hq => bindI h fun p1 h1 h => mapI (P := fun p => Q p.1 p.2) h hq fun r h2 hq => iha _ _ _ h1 ⟨_, h2, hq⟩
  · exact fun a m args iha ih ρ p Q h hq => bindI h fun p1 h1 h => bindI (whenI h).2 fun p2 h2 h3 => mapI (P := fun p => Q p.1 p.2) h3 hq fun r h4 hq => iha _ _ _ h1 ⟨wsI (whenI h).1, ih _ _ _ h2 ⟨_, hc _ _ _ h4, hq⟩⟩
  · exact fun elt two it cond ihe ihi _ => r_comp ihe ihi
  · exact fun a b c iha ihb ihc => r_range iha ihb ihc
  · exact fun a b _ _ => r_no fun _ => rfl
  · exact fun ρ p Q h hq => ((Option.some.inj h).symm ▸ hq : Q (([], ρ) : List V × List Slot).1 (([], ρ) : List V × List Slot).2)
  · exact fun e r ihe ih ρ p Q h hq => bindI h fun p1 h1 h => mapI (P := fun p => Q p.1 p.2) h hq fun p2 h2 hq => ihe _ _ _ h1 (ih _ _ _ h2 hq)
  · exact fun ρ p Q h hq => ((Option.some.inj h).symm ▸ hq : Q ((V.none, ρ) : V × List Slot).1 ((V.none, ρ) : V × List Slot).2)
  · exact fun e ihe ρ p Q h hq => ihe _ _ _ h hq
theorem runEs_all (hc : ∀ f vs r, call f vs = some r → Sp f vs r) : ∀ c : List CE, RsOk call Sp c
  | [] => fun ρ p Q h hq => ((Option.some.inj h).symm ▸ hq : Q (([], ρ) : List V × List Slot).1 (([], ρ) : List V × List Slot).2)
  | e :: r => fun ρ p Q h hq => bindI h fun p1 h1 h => mapI (P := fun p => Q p.1 p.2) h hq fun p2 h2 hq => runE_all hc e _ _ _ h1 (runEs_all hc r _ _ _ h2 hq)
end
end Mine

-- part 58
namespace Mine
section
variable (call : Nat → List V → Option V)
noncomputable def outF (k : List Slot → Option Out) : Out → Option Out
  | .next ρ₂ => k ρ₂
  | .brk ρ₂ => some (.next ρ₂)
  | .ret v => some (.ret v)
noncomputable def forF (bind : V → List Slot → Option (List Slot)) (g : List Slot → Option Out) : List V → List Slot → Option Out
  | [], ρ => some (.next ρ)
  | x :: xs, ρ => (bind x ρ).bind fun ρ₁ => (g ρ₁).bind (outF fun ρ₂ => forF bind g xs ρ₂)
noncomputable def whileF (f : List Slot → Option (V × List Slot)) (g : List Slot → Option Out) : Nat → List Slot → Option Out
  | 0, _ => none
  | n + 1, ρ => (f ρ).bind fun p => onBool p.1 fun x => if x = true then (g p.2).bind (outF fun ρ₂ => whileF f g n ρ₂) else some (.next p.2)
noncomputable def bindPF (x y : Nat) (v : V) (ρ : List Slot) : Option (List Slot) := match v with
  | .tup [a, b] => some ((ρ.set x (.fro a)).set y (.fro b))
  | _ => none
noncomputable def slotF : Slot → Option V
  | .fro v => some v
  | _ => none
noncomputable def onOwn {α : Type} (s : Slot) (k : List V → Option α) : Option α := match s with
  | .own l => k l
  | _ => none
noncomputable def nextF (k : List Slot → Option Out) : Out → Option Out
  | .next ρ => k ρ
  | o => some o
mutual
noncomputable def runS : CS → List Slot → Option Out
  | .assign x e, ρ => (runE call e ρ).map fun p => .next (p.2.set x (.fro p.1))
  | .ownList x es, ρ => (runEs call es ρ).map fun p => .next (p.2.set x (.own p.1))
  | .unpack x y e, ρ => (runE call e ρ).bind fun p => (bindPF x y p.1 p.2).map .next
  | .append x e, ρ => onOwn (ρ.getD x .undef) fun _ => (runE call e ρ).bind fun p => onOwn (p.2.getD x .undef) fun l => when (decide (l.length ≤ 1048576)) (some (.next (p.2.set x (.own (l ++ [p.1])))))
  | .aug x op e, ρ => (slotF (ρ.getD x .undef)).bind fun v => onInt v fun i => (runE call e ρ).bind fun p => (binV op (.int i) p.1).map fun r => .next (p.2.set x (.fro r))
  | .ite t a b, ρ => (runE call t ρ).bind fun p => onBool p.1 fun x => if x = true then runSs a p.2 else runSs b p.2
  | .whil t b, ρ => whileF (fun ρ => runE call t ρ) (fun ρ => runSs b ρ) 64 ρ
  | .for1 x it b, ρ => (runE call it ρ).bind fun p => (iterV p.1).bind fun items => forF (fun v ρ => some (ρ.set x (.fro v))) (fun ρ => runSs b ρ) items p.2
  | .brk, ρ => some (.brk ρ)
  | .ret e, ρ => (runE call e ρ).map fun p => .ret p.1
  | _, _ => none
noncomputable def runSs : List CS → List Slot → Option Out
  | [], ρ => some (.next ρ)
  | s :: r, ρ => (runS s ρ).bind (nextF fun ρ₁ => runSs r ρ₁)
end
end
section
variable {call : Nat → List V → Option V} {Sp : Nat → List V → V → Prop}
theorem outF_ok {k : List Slot → Option Out} {K : List Slot → Prop} {Q : Out → Prop} {o o₁ : Out} (h : outF k o₁ = some o) (hq : Q o) (hk : ∀ ρ, k ρ = some o → K ρ) : loopOut K Q o₁ := match o₁, h with
  | .next ρ, h => hk ρ h
  | .brk ρ, h => ((Option.some.inj h).symm ▸ hq : Q (.next ρ))
  | .ret v, h => ((Option.some.inj h).symm ▸ hq : Q (.ret v))
theorem forF_ok {bind : V → List Slot → Option (List Slot)} {Bd : V → List Slot → (List Slot → Prop) → Prop} {g : List Slot → Option Out} {G : List Slot → (Out → Prop) → Prop} (hb : ∀ x ρ ρ' k, bind x ρ = some ρ' → k ρ' → Bd x ρ k) (hg : ∀ ρ o Q, g ρ = some o → Q o → G ρ Q) :
    ∀ (xs : List V) (ρ : List Slot) (o : Out) (Q : Out → Prop), forF bind g xs ρ = some o → Q o → forL Bd G xs ρ Q
  | [], ρ, o, Q, h, hq => ((Option.some.inj h).symm ▸ hq : Q (.next ρ))
  | x :: xs, ρ, o, Q, h, hq => bindI h fun ρ₁ h1 h => bindI h fun o₁ h2 h => hb _ _ _ _ h1 (hg _ _ _ h2 (outF_ok h hq fun ρ₂ h => forF_ok hb hg xs ρ₂ o Q h hq))
theorem whileF_ok {f : List Slot → Option (V × List Slot)} {F : List Slot → (Bool → List Slot → Prop) → Prop} {g : List Slot → Option Out} {G : List Slot → (Out → Prop) → Prop} (hf : ∀ ρ x ρ' k, f ρ = some (.bool x, ρ') → k x ρ' → F ρ k) (hg : ∀ ρ o Q, g ρ = some o → Q o → G ρ Q) :
    ∀ (n : Nat) (ρ : List Slot) (o : Out) (Q : Out → Prop), whileF f g n ρ = some o → Q o → whileN F G n ρ Q
  | 0, ρ, o, Q, h, hq => nos rfl h
  | n + 1, ρ, o, Q, h, hq => bindI h fun p h1 h => by
    obtain ⟨v, ρ₁⟩ := p
    obtain ⟨x, rfl, h⟩ := onBool_inv (k := fun x => if x = true then (g ρ₁).bind (outF fun ρ₂ => whileF f g n ρ₂) else some (.next ρ₁)) h
    cases x with
    | false => exact hf _ _ _ _ h1 ⟨fun _ => ((Option.some.inj h).symm ▸ hq : Q (.next ρ₁)), nofun⟩
    | true => exact hf _ _ _ _ h1 ⟨nofun, fun _ => bindI (o := g ρ₁) h fun o₁ h2 h => hg _ _ _ h2 (outF_ok h hq fun ρ₂ h => whileF_ok hf hg n ρ₂ o Q h hq)⟩
theorem bindPF_inv {x y : Nat} {v : V} {ρ ρ' : List Slot} (h : bindPF x y v ρ = some ρ') : ∃ a b, v = .tup [a, b] ∧ (ρ.set x (.fro a)).set y (.fro b) = ρ' := by
  cases v with
  | tup l =>
    match l, h with
    | [a, b], h => exact ⟨a, b, rfl, Option.some.inj h⟩
    | [], h => exact nos rfl h
    | [_], h => exact nos rfl h
    | _ :: _ :: _ :: _, h => exact nos rfl h
  | _ => exact nos rfl h
theorem onOwn_inv {α : Type} {s : Slot} {k : List V → Option α} {r : α} (h : onOwn s k = some r) : ∃ l, s = .own l ∧ k l = some r := match s, h with
  | .own l, h => ⟨l, rfl, h⟩
theorem slotF_inv {s : Slot} {v : V} (h : slotF s = some v) : s = .fro v := match s, h with
  | .fro _, h => congrArg Slot.fro (Option.some.inj h)
noncomputable def SOk (call : Nat → List V → Option V) (Sp : Nat → List V → V → Prop) (c : CS) : Prop := ∀ (ρ : List Slot) (o : Out) (Q : Out → Prop), runS call c ρ = some o → Q o → wpS Sp c ρ Q
noncomputable def SsOk (call : Nat → List V → Option V) (Sp : Nat → List V → V → Prop) (c : List CS) : Prop := ∀ (ρ : List Slot) (o : Out) (Q : Out → Prop), runSs call c ρ = some o → Q o → wpSs Sp c ρ Q
theorem S_no {c : CS} (h : ∀ ρ, runS call c ρ = none) : SOk call Sp c := fun ρ _ _ e _ => nos (h ρ) e
theorem S_append (hc : ∀ f vs r, call f vs = some r → Sp f vs r) {x : Nat} {e : CE} : SOk call Sp (.append x e) := fun ρ o Q h hq => by
  obtain ⟨l₀, hl₀, h⟩ := onOwn_inv (k := fun _ => (runE call e ρ).bind fun p => onOwn (p.2.getD x .undef) fun l => when (decide (l.length ≤ 1048576)) (some (Out.next (p.2.set x (.own (l ++ [p.1])))))) h
  refine bindI h fun p h1 h => ?_
  obtain ⟨l, hl, h⟩ := onOwn_inv (k := fun l => when (decide (l.length ≤ 1048576)) (some (Out.next (p.2.set x (.own (l ++ [p.1])))))) h
  obtain ⟨hlen, h⟩ := whenI h
  refine ⟨⟨l₀, hl₀⟩, runE_all hc e _ _ _ h1 ?_⟩
  show (match p.2.getD x .undef with | .own l => l.length ≤ 1048576 ∧ Q (.next (p.2.set x (.own (l ++ [p.1])))) | _ => False)
  rw [hl]
  exact ⟨of_decide_eq_true hlen, Option.some.inj h ▸ hq⟩
theorem S_aug (hc : ∀ f vs r, call f vs = some r → Sp f vs r) {x : Nat} {op : Operator} {e : CE} : SOk call Sp (.aug x op e) := fun ρ o Q h hq => bindI h fun v hv h => by
  obtain ⟨i, rfl, h⟩ := onInt_inv (k := fun i => (runE call e ρ).bind fun p => (binV op (.int i) p.1).map fun r => Out.next (p.2.set x (.fro r))) h
  exact bindI h fun p h1 h => mapI (P := Q) h hq fun r h2 hq => ⟨i, slotF_inv hv, runE_all hc e _ _ _ h1 ⟨r, h2, hq⟩⟩
theorem S_unpack (hc : ∀ f vs r, call f vs = some r → Sp f vs r) {x y : Nat} {e : CE} : SOk call Sp (.unpack x y e) := fun ρ o Q h hq => bindI h fun p h1 h => mapI (P := Q) h hq fun ρ₁ h2 hq => by
  obtain ⟨a, b, h3, rfl⟩ := bindPF_inv h2
  refine runE_all hc e _ _ _ h1 ?_
  rw [h3]
  exact hq
theorem S_ite (hc : ∀ f vs r, call f vs = some r → Sp f vs r) {t : CE} {a b : List CS} (iha : SsOk call Sp a) (ihb : SsOk call Sp b) : SOk call Sp (.ite t a b) := fun ρ o Q h hq => bindI h fun p h1 h => by
  obtain ⟨x, e, h⟩ := onBool_inv (k := fun x => if x = true then runSs call a p.2 else runSs call b p.2) h
  cases x with
  | true => exact runE_all hc t _ _ _ h1 ⟨true, e, fun _ => iha _ _ _ h hq, nofun⟩
  | false => exact runE_all hc t _ _ _ h1 ⟨false, e, nofun, fun _ => ihb _ _ _ h hq⟩
theorem runSs_ok (hc : ∀ f vs r, call f vs = some r → Sp f vs r) (c : List CS) : SsOk call Sp c := by
  refine CS.rec_1 (motive_1 := SOk call Sp) (motive_2 := SsOk call Sp) ?_ ?_ ?_ ?_ ?_ ?_ ?_ ?_ ?_ ?_ ?_ ?_ ?_ ?_ ?_ ?_ ?_ ?_ c
  · exact fun x e ρ o Q h hq => mapI (P := Q) h hq fun p h1 hq => runE_all hc e _ _ _ h1 hq
  · exact fun x es ρ o Q h hq => mapI (P := Q) h hq fun p h1 hq => runEs_all hc es _ _ _ h1 hq
  · exact fun x y e => S_no fun _ => rfl
  · exact fun xs e => S_no fun _ => rfl
  · exact fun x y e => S_unpack hc
  · exact fun x e => S_append hc
  · exact fun x i e => S_no fun _ => rfl
  · exact fun x op e => S_aug hc
  · exact fun x e => S_no fun _ => rfl
  · exact fun t a b iha ihb => S_ite hc iha ihb
  · exact fun t b ih ρ o Q h hq => ⟨64, whileF_ok (f := fun ρ => runE call t ρ) (F := fun ρ k => wpE Sp t ρ fun v ρ₁ => ∃ x, v = .bool x ∧ k x ρ₁) (g := fun ρ => runSs call b ρ) (G := fun ρ k => wpSs Sp b ρ k) (fun ρ x ρ' k h1 hk => runE_all hc t _ _ _ h1 ⟨x, rfl, hk⟩) (fun ρ o Q h1 hq => ih _ _ _ h1 hq) _ _ _ _ h hq⟩
  · exact fun x it b ih ρ o Q h hq => bindI h fun p h1 h => bindI h fun items h2 h => runE_all hc it _ _ _ h1 ⟨items, h2, forF_ok (bind := fun v ρ => some (ρ.set x (.fro v))) (Bd := bind1 x) (g := fun ρ => runSs call b ρ) (G := fun ρ k => wpSs Sp b ρ k) (fun v ρ ρ' k h3 hk => ((Option.some.inj h3 : ρ.set x (.fro v) = ρ').symm ▸ hk : k (ρ.set x (.fro v)))) (fun ρ o Q h1 hq => ih _ _ _ h1 hq) _ _ _ _ h hq⟩
  · exact fun x y it b ih => S_no fun _ => rfl
  · exact fun x y e b ih => S_no fun _ => rfl
  · exact fun ρ o Q h hq => ((Option.some.inj h).symm ▸ hq : Q (.brk ρ))
  · exact fun e ρ o Q h hq => mapI (P := Q) h hq fun p h1 hq => runE_all hc e _ _ _ h1 hq
  · exact fun ρ o Q h hq => ((Option.some.inj h).symm ▸ hq : Q (.next ρ))
  · exact fun s r ihs ihr ρ o Q h hq => bindI h fun o₁ h1 h => ihs _ _ _ h1 (match o₁, h with
      | .next ρ₁, h => ihr _ _ _ h hq
      | .brk ρ₁, h => ((Option.some.inj h).symm ▸ hq : Q (.brk ρ₁))
      | .ret v, h => ((Option.some.inj h).symm ▸ hq : Q (.ret v)))
end
noncomputable def retF : Out → Option V
  | .ret v => some v
  | _ => none
noncomputable def runF (call : Nat → List V → Option V) (co : List CS) (extra : Nat) (vs : List V) : Option V := (runSs call co (vs.map .fro ++ List.replicate extra Slot.undef)).bind retF
theorem retF_inv {o : Out} {r : V} (h : retF o = some r) : o = .ret r := match o, h with
  | .ret _, h => congrArg Out.ret (Option.some.inj h)
theorem runF_ok {call : Nat → List V → Option V} {Sp : Nat → List V → V → Prop} (hc : ∀ f vs r, call f vs = some r → Sp f vs r) {co : List CS} {extra : Nat} {vs : List V} {r : V} (h : runF call co extra vs = some r) : wpSs Sp co (vs.map .fro ++ List.replicate extra Slot.undef) (fun o => o = .ret r) :=
  bindI h fun o h1 h => runSs_ok hc co _ _ _ h1 (retF_inv h)
noncomputable def call0 : Nat → List V → Option V := fun _ _ => none
noncomputable def rEnds (vs : List V) : Option V := runF call0 co_law_ends 3 vs
noncomputable def rHeads (vs : List V) : Option V := runF call0 co_law_heads 3 vs
noncomputable def rMoved (vs : List V) : Option V := runF (fun f vs => if f = 11 then rEnds vs else none) co_law_moved 5 vs
noncomputable def rHad (vs : List V) : Option V := runF (fun f vs => if f = 14 then rMoved vs else none) co_law_had 3 vs
noncomputable def rLong (vs : List V) : Option V := runF call0 co_longest_run_of_spaces 2 vs
noncomputable def rInd (vs : List V) : Option V := runF call0 co_indent_level 4 vs
noncomputable def rLess (vs : List V) : Option V := runF (fun f vs => if f = 31 then rLong vs else if f = 32 then rInd vs else none) co_less 2 vs
noncomputable def pages14 : List (List Int) := [[0, 0, 0, 0], [0, 0, 0, 1], [0, 0, 1, 0], [0, 0, 1, 1], [0, 0, 1, 2], [0, 1, 0, 0], [0, 1, 0, 1], [0, 1, 1, 0], [0, 1, 1, 1], [0, 1, 1, 2], [0, 1, 2, 0], [0, 1, 2, 1], [0, 1, 2, 2], [0, 1, 2, 3]]
end Mine

-- part 59
namespace Mine
theorem p_and1 {x : Bool} {P : Bool → Prop} {P' : Prop} (hx : x = true) (h : P') : ∃ y, V.bool x = .bool y ∧ ((y = (BoolOp.And == .Or)) → P y) ∧ ((y ≠ (BoolOp.And == .Or)) → P') := ⟨x, rfl, fun e => absurd (hx.symm.trans e) (by decide), fun _ => h⟩
theorem p_or0 {x : Bool} {P : Bool → Prop} {P' : Prop} (hx : x = false) (h : P') : ∃ y, V.bool x = .bool y ∧ ((y = (BoolOp.Or == .Or)) → P y) ∧ ((y ≠ (BoolOp.Or == .Or)) → P') := ⟨x, rfl, fun e => absurd (hx.symm.trans e) (by decide), fun _ => h⟩
variable {Sp : Nat → List V → V → Prop}
theorem iterV_list {l : List V} (h : l.length ≤ 1048576) : iterV (.list l) = some l := if_pos h
theorem vc_le (a b : Int) : wpSs Sp co_le [.fro (.int a), .fro (.int b)] (fun o => o = .ret (.bool (decide (a ≤ b)))) := by
  unfold co_le
  walk_at "VC"
theorem vc_ge (a b : Int) : wpSs Sp co_ge [.fro (.int a), .fro (.int b)] (fun o => o = .ret (.bool (decide (b ≤ a)))) := by
  unfold co_ge
  walk_at "VC"
theorem vc_gt (a b : Int) : wpSs Sp co_gt [.fro (.int a), .fro (.int b)] (fun o => o = .ret (.bool (decide (b < a)))) := by
  unfold co_gt
  walk_at "VC"
theorem vc_add (a b : Int) : wpSs Sp co_add [.fro (.int a), .fro (.int b)] (fun o => o = .ret (.int (a + b))) := by
  unfold co_add
  walk_at "VC"
theorem vc_getitem {l : List V} {i : Int} {r : V} (h : idxV (.list l) (.int i) = some r) : wpSs Sp co_getitem [.fro (.list l), .fro (.int i)] (fun o => o = .ret r) := by
  unfold co_getitem
  walk_at "VC"
  refine x_get rfl h ?_
  walk_at "VC"
theorem vc_countOf : ∀ (l l₀ : List Bool) (n : Nat) (s : Slot) (R : Out → Prop), (∀ s', R (.next [.fro (.list (l₀.map .bool)), .fro (.bool true), .fro (.int ((n + l.count true : Nat) : Int)), s'])) →
    forL (bind1 3) (fun ρ k => wpSs Sp [.ite (.bop .Or (.cmp .Is (.var 3) (.var 1)) (.cmp .Eq (.var 3) (.var 1))) [.aug 2 .Add (.int 1)] []] ρ k) (l.map .bool) [.fro (.list (l₀.map .bool)), .fro (.bool true), .fro (.int (n : Int)), s] R
  | [], l₀, n, s, R, h => by
    refine f_nil ?_
    simpa using h s
  | b :: l, l₀, n, s, R, h => by
    show forL _ _ (.bool b :: l.map .bool) _ _
    walk_at "VC"
    cases b
    · refine p_or0 rfl ?_
      walk_at "VC"
      refine o_last ?_
      refine i_false rfl ?_
      walk_at "VC"
      refine vc_countOf l l₀ n _ R fun s' => ?_
      have := h s'
      simpa using this
    · refine o_or1 rfl ?_
      refine i_true rfl ?_
      walk_at "VC"
      have e : ((n : Int) + 1) = ((n + 1 : Nat) : Int) := by omega
      rw [e]
      refine vc_countOf l l₀ (n + 1) _ R fun s' => ?_
      have := h s'
      simp only [List.count_cons_self] at this
      rw [show n + 1 + List.count true l = n + (List.count true l + 1) by omega]
      exact this
theorem vc_count (l : List Bool) (hl : l.length ≤ 1000) : wpSs Sp co_countOf [.fro (.list (l.map .bool)), .fro (.bool true), .undef, .undef] (fun o => o = .ret (.int (l.count true : Nat))) := by
  unfold co_countOf
  walk_at "VC"
  refine ⟨l.map .bool, iterV_list (by simp; omega), ?_⟩
  refine vc_countOf l l 0 _ _ fun s' => ?_
  dsimp only
  walk_at "VC"
  simp
noncomputable def pageF (a b c : Int) : List Int := [0, a.fmod 2, b.fmod (a.fmod 2 + 2), c.fmod (b.fmod (a.fmod 2 + 2) + 2)]
theorem vc_page (a b c d : Int) (ha : 0 ≤ a) (hb : 0 ≤ b) : wpSs Sp co_law_page [.fro (.list (intsV [a, b, c, d])), .undef, .undef] (fun o => o = .ret (.list (intsV (pageF a b c)))) := by
  unfold co_law_page
  walk_at "VC"
  refine ⟨_, _, _, _, _, rfl, rfl, rfl, rfl, rfl, _, rfl, ?_⟩
  show forL _ _ [.int a, .int b, .int c] _ _
  have m0 : 0 ≤ a.fmod 2 := Int.fmod_nonneg_of_pos a (by decide)
  have m1 : 0 ≤ b.fmod (a.fmod 2 + 2) := Int.fmod_nonneg_of_pos b (by omega)
  walk_at "VC"
  refine ⟨_, rfl, ?_⟩
  refine x_get rfl rfl ?_
  walk_at "VC"
  refine b_mod (by decide) ?_
  walk_at "VC"
  refine ⟨_, rfl, ?_⟩
  refine x_get rfl rfl ?_
  walk_at "VC"
  refine b_mod (by
    have : 0 ≤ a.fmod (0 + 2) := m0
    omega) ?_
  walk_at "VC"
  refine ⟨_, rfl, ?_⟩
  refine x_get rfl rfl ?_
  walk_at "VC"
  refine b_mod (by
    have : 0 ≤ b.fmod (a.fmod (0 + 2) + 2) := m1
    omega) ?_
  walk_at "VC"
  rfl
end Mine

-- part 60
namespace Mine
variable {Sp : Nat → List V → V → Prop}
theorem fmod_nat (x y : Nat) : (x : Int).fmod (y : Int) = ((x % y : Nat) : Int) := by
  rw [Int.fmod_eq_emod_of_nonneg _ (by omega)]; omega
theorem fdiv_nat (x y : Nat) : (x : Int).fdiv (y : Int) = ((x / y : Nat) : Int) := by
  rw [Int.fdiv_eq_ediv_of_nonneg _ (by omega)]; omega
theorem pick_idx {α : Type} {l : List α} {lo hi st : Option Int} (n : Nat) (idx : List Nat) (hn : l.length = n) (h : sliceRange (sliceBounds lo hi st n).1 (sliceBounds lo hi st n).2.1 (sliceBounds lo hi st n).2.2 = idx) : pickL l lo hi st = idx.filterMap (l[·]?) := by
  unfold pickL; rw [hn, h]
theorem rev1 {α : Type} (a : α) : pickL [a] none none (some (-1)) = [a] := by rw [pick_idx 1 [0] rfl (by decide +kernel)]; rfl
theorem rev2 {α : Type} (a b : α) : pickL [a, b] none none (some (-1)) = [b, a] := by rw [pick_idx 2 [1, 0] rfl (by decide +kernel)]; rfl
theorem rev3 {α : Type} (a b c : α) : pickL [a, b, c] none none (some (-1)) = [c, b, a] := by rw [pick_idx 3 [2, 1, 0] rfl (by decide +kernel)]; rfl
noncomputable def figs (x : Nat) : List Nat := if x < 64 then [x % 64] else if x < 4096 then [64 + x / 64 % 64, x % 64] else [64 + x / 64 / 64 % 64, 64 + x / 64 % 64, x % 64]
theorem vc_figures (x : Nat) (hx : x < 262144) : wpSs Sp co_law_figures [.fro (.int x), .undef, .undef] (fun o => o = .ret (.list (intsV ((figs x).map Int.ofNat)))) := by
  unfold co_law_figures
  have f64 : ∀ y : Nat, ((y : Int).fmod 64) = ((y % 64 : Nat) : Int) := fun y => fmod_nat y 64
  have d64 : ∀ y : Nat, ((y : Int).fdiv 64) = ((y / 64 : Nat) : Int) := fun y => fdiv_nat y 64
  walk_at "VC"
  refine b_mod (by decide) ?_
  rw [f64]
  walk_at "VC"
  refine b_div (by decide) ?_
  rw [d64]
  walk_at "VC"
  refine s_whil 4 (w_step ?_)
  by_cases h1 : x < 64
  · walk_at "VC"
    refine iw_false (decide_eq_false (by omega)) ?_
    walk_at "VC"
    refine ⟨_, rfl, ?_⟩
    refine ⟨_, _, _, _, _, rfl, rfl, rfl, rfl, rfl, ?_⟩
    unfold figs
    rw [if_pos h1, rev1]
    rfl
  · walk_at "VC"
    refine iw_true (decide_eq_true (by omega)) ?_
    walk_at "VC"
    refine b_mod (by decide) ?_
    rw [f64]
    walk_at "VC"
    refine b_div (by decide) ?_
    rw [d64]
    walk_at "VC"
    refine w_step ?_
    by_cases h2 : x < 4096
    · walk_at "VC"
      refine iw_false (decide_eq_false (by omega)) ?_
      walk_at "VC"
      refine ⟨_, rfl, ?_⟩
      refine ⟨_, _, _, _, _, rfl, rfl, rfl, rfl, rfl, ?_⟩
      unfold figs
      rw [if_neg h1, if_pos h2]
      show Out.ret (.list (pickL [_, _] none none (some (-1)))) = _
      rw [rev2]
      rfl
    · walk_at "VC"
      refine iw_true (decide_eq_true (by omega)) ?_
      walk_at "VC"
      refine b_mod (by decide) ?_
      rw [f64]
      walk_at "VC"
      refine b_div (by decide) ?_
      rw [d64]
      walk_at "VC"
      refine w_step ?_
      walk_at "VC"
      refine iw_false (decide_eq_false (by omega)) ?_
      walk_at "VC"
      refine ⟨_, rfl, ?_⟩
      refine ⟨_, _, _, _, _, rfl, rfl, rfl, rfl, rfl, ?_⟩
      unfold figs
      rw [if_neg h1, if_neg h2]
      show Out.ret (.list (pickL [_, _, _] none none (some (-1)))) = _
      rw [rev3]
      rfl
end Mine

-- part 61
namespace Mine
variable {Sp : Nat → List V → V → Prop}
structure Wx where
  n : Nat
  nt : Nat
  b : Nat
  cnt : List Int
  s : Bool
noncomputable def Wx.v (x : Wx) : V := .ws x.n x.nt x.cnt x.b x.s
noncomputable def Wx.ok (x : Wx) : Prop := x.cnt.length ≤ 1001 ∧ x.b ≤ 1000
noncomputable def lngF (x : Wx) : Int := if ((x.cnt.length : Nat) : Int) - 1 < (x.b : Int) then (x.b : Int) else (x.cnt.length : Int) - 1
theorem lenV_ints {l : List Int} (h : l.length ≤ 1048576) : lenV (.list (intsV l)) = some (l.length : Int) := by
  show (if (intsV l).length ≤ 1048576 then some ((intsV l).length : Int) else none) = _
  simp [intsV, h]
theorem lenV_intsT {l : List Int} (h : l.length ≤ 1048576) : lenV (.tup (intsV l)) = some (l.length : Int) := by
  show (if (intsV l).length ≤ 1048576 then some ((intsV l).length : Int) else none) = _
  simp [intsV, h]
theorem vc_long (x : Wx) (hx : x.ok) : wpSs Sp co_longest_run_of_spaces [.fro x.v, .undef, .undef] (fun o => o = .ret (.int (lngF x))) := by
  unfold co_longest_run_of_spaces
  walk_at "VC"
  refine ⟨_, rfl, ?_⟩
  show wpSs _ _ _ _
  walk_at "VC"
  refine e_lenv rfl rfl (lenV_intsT (by have := hx.1; omega)) ?_
  walk_at "VC"
  exact ⟨_, _, rfl, rfl, rfl⟩
noncomputable def idxR (a b : Nat) : List Nat := (List.range (b - a)).map fun k => a + k
theorem rangeV_nat (a b : Nat) : rangeV a b 1 = (idxR a b).map fun (i : Nat) => V.int i := by
  unfold rangeV rangeV.sliceRangeI idxR
  have : (Builtin.Range.rangeSize (a : Int) (b : Int) 1).toNat = b - a := by
    unfold Builtin.Range.rangeSize
    rw [if_pos (by decide)]
    split
    · rw [Int.ediv_one]; omega
    · omega
  rw [this, List.map_map, List.map_map]
  refine List.map_congr_left fun k _ => ?_
  simp
noncomputable def ilF (ts : Nat) (cnt : List Int) (l : List Nat) (acc : Int) : Int := l.foldl (fun acc i => acc + ((i / ts : Nat) : Int) * cnt.getD i 0) acc
noncomputable def indF (x : Wx) (ts : Nat) : Int := (x.b : Int) + (ts : Int) * (ilF ts x.cnt (idxR ts x.cnt.length) 0 + (x.nt : Int))
theorem idxT_get {cnt : List Int} {b : Nat} (h : b < cnt.length) (h2 : cnt.length ≤ 1048576) : idxV (.tup (intsV cnt)) (.int b) = some (.int (cnt.getD b 0)) := by
  have := intsV_get h
  rw [if_pos h2] at this
  exact this
theorem vc_ind_loop (x : Wx) (hx : x.ok) (ts : Nat) (hts : 1 ≤ ts ∧ ts ≤ 5000) (R : Out → Prop) : ∀ (l : List Nat) (acc : Int) (s : Slot), (∀ i ∈ l, i < x.cnt.length) → (∀ s', R (.next [.fro x.v, .fro (.int ts), .fro (.tup (intsV x.cnt)), .fro (.int x.b), .fro (.int (ilF ts x.cnt l acc)), s'])) →
    forL (bind1 5) (fun ρ k => wpSs Sp [.assign 4 (.bin .Add (.var 4) (.bin .Mult (.bin .FloorDiv (.var 5) (.var 1)) (.subv 2 (.var 5))))] ρ k) (l.map fun (i : Nat) => V.int i) [.fro x.v, .fro (.int ts), .fro (.tup (intsV x.cnt)), .fro (.int x.b), .fro (.int acc), s] R
  | [], acc, s, _, h => by
    refine f_nil ?_
    exact h s
  | i :: l, acc, s, hl, h => by
    have hi := hl i (List.mem_cons_self ..)
    have hc := hx.1
    show forL _ _ (.int i :: l.map _) _ _
    walk_at "VC"
    refine b_div ⟨by omega, by omega⟩ ?_
    rw [fdiv_nat]
    walk_at "VC"
    refine x_get rfl (idxT_get hi (by omega)) ?_
    have hq : i / ts ≤ i := Nat.div_le_self _ _
    refine b_mul (by
      generalize i / ts = q at hq
      rw [Int.natAbs_natCast]; omega) ?_
    walk_at "VC"
    exact vc_ind_loop x hx ts hts R l _ _ (fun j hj => hl j (List.mem_cons_of_mem _ hj)) h
theorem vc_ind (x : Wx) (hx : x.ok) (ts : Nat) (hts : 1 ≤ ts ∧ ts ≤ 5000) : wpSs Sp co_indent_level [.fro x.v, .fro (.int ts), .undef, .undef, .undef, .undef] (fun o => o = .ret (.int (indF x ts))) := by
  unfold co_indent_level
  have hc := hx.1
  walk_at "VC"
  refine ⟨_, rfl, ?_⟩
  show wpSs _ _ _ _
  walk_at "VC"
  refine e_lenv rfl rfl (lenV_intsT (l := x.cnt) (by omega)) ?_
  walk_at "VC"
  refine ⟨ts, x.cnt.length, 1, rfl, rfl, rfl, ⟨by decide, by decide, by omega, by omega⟩, ?_⟩
  have hlr : (rangeV ts x.cnt.length 1).length ≤ 1048576 := by
    rw [rangeV_nat]; simp [idxR]; omega
  refine ⟨_, iterV_list hlr, ?_⟩
  rw [rangeV_nat]
  refine vc_ind_loop x hx ts hts _ _ 0 _ (fun i hi => ?_) fun s' => ?_
  · unfold idxR at hi
    obtain ⟨k, hk, rfl⟩ := List.mem_map.mp hi
    have := List.mem_range.mp hk
    omega
  · dsimp only
    walk_at "VC"
    refine ⟨_, rfl, ?_⟩
    walk_at "VC"
    refine b_mul (by omega) ?_
    walk_at "VC"
    rfl
noncomputable def lessF (x y : Wx) : Bool := if y.n ≤ x.n then false else if x.s && y.s then decide (x.nt ≤ y.nt) else
  (idxR 2 ((if lngF x < lngF y then lngF y else lngF x) + 1 + 1).toNat).all fun ts => decide (indF x ts < indF y ts)
structure LessSp (Sp : Nat → List V → V → Prop) (x y : Wx) : Prop where
  l1 : Sp 31 [x.v] (.int (lngF x))
  l2 : Sp 31 [y.v] (.int (lngF y))
  i1 : ∀ ts : Nat, 1 ≤ ts ∧ ts ≤ 5000 → Sp 32 [x.v, .int ts] (.int (indF x ts))
  i2 : ∀ ts : Nat, 1 ≤ ts ∧ ts ≤ 5000 → Sp 32 [y.v, .int ts] (.int (indF y ts))
theorem vc_less_loop (x y : Wx) (S : LessSp Sp x y) (nn : Int) (R : Out → Prop) : ∀ (l : List Nat) (s : Slot), (∀ i ∈ l, 1 ≤ i ∧ i ≤ 5000) → ((l.all fun ts => decide (indF x ts < indF y ts)) = true → ∀ s', R (.next [.fro x.v, .fro y.v, .fro (.int nn), s'])) → ((l.all fun ts => decide (indF x ts < indF y ts)) = false → R (.ret (.bool false))) →
    forL (bind1 3) (fun ρ k => wpSs Sp [.ite (.cmp .GtE (.mcall (.var 0) 32 [(.var 3)]) (.mcall (.var 1) 32 [(.var 3)])) [.ret (.bool false)] []] ρ k) (l.map fun (i : Nat) => V.int i) [.fro x.v, .fro y.v, .fro (.int nn), s] R
  | [], s, _, h, _ => by
    refine f_nil ?_
    exact h rfl s
  | i :: l, s, hl, h, h' => by
    have hi := hl i (List.mem_cons_self ..)
    show forL _ _ (.int i :: l.map _) _ _
    walk_at "VC"
    refine ⟨⟨_, _, _, _, _, rfl⟩, es_cons (e_fro rfl (es_nil ⟨_, S.i1 i hi, ?_⟩))⟩
    walk_at "VC"
    refine ⟨⟨_, _, _, _, _, rfl⟩, es_cons (e_fro rfl (es_nil ⟨_, S.i2 i hi, ?_⟩))⟩
    walk_at "VC"
    by_cases hc : indF x i < indF y i
    · refine i_false (decide_eq_false (by omega)) ?_
      walk_at "VC"
      refine vc_less_loop x y S nn R l _ (fun j hj => hl j (List.mem_cons_of_mem _ hj)) (fun e s' => h (by simp [hc, e]) s') (fun e => h' ?_)
      rw [List.all_cons, e, Bool.and_false]
    · refine i_true (decide_eq_true (by omega)) ?_
      walk_at "VC"
      exact h' (by simp [hc])
theorem lng_le (x : Wx) (hx : x.ok) : lngF x ≤ 1001 ∧ -1 ≤ lngF x := by
  have h1 := hx.1
  have h2 := hx.2
  unfold lngF
  split <;> omega
theorem vc_less (x y : Wx) (hx : x.ok) (hy : y.ok) (S : LessSp Sp x y) : wpSs Sp co_less [.fro x.v, .fro y.v, .undef, .undef] (fun o => o = .ret (.bool (lessF x y))) := by
  unfold co_less
  walk_at "VC"
  refine ⟨_, rfl, ?_⟩
  walk_at "VC"
  refine ⟨_, rfl, ?_⟩
  walk_at "VC"
  by_cases h1 : y.n ≤ x.n
  · refine i_true (decide_eq_true (by omega)) ?_
    walk_at "VC"
    unfold lessF
    rw [if_pos h1]
  · refine i_false (decide_eq_false (by omega)) ?_
    walk_at "VC"
    refine ⟨_, rfl, ?_⟩
    have key : x.s = false ∨ y.s = false → wpSs Sp [.assign 2 (.bin .Add (.max (.mcall (.var 0) 31 []) (.mcall (.var 1) 31 [])) (.int 1)),
      .for1 3 (.range (.int 2) (.bin .Add (.var 2) (.int 1)) (.int 1)) [.ite (.cmp .GtE (.mcall (.var 0) 32 [(.var 3)]) (.mcall (.var 1) 32 [(.var 3)])) [.ret (.bool false)] []], .ret (.bool true)] [.fro x.v, .fro y.v, .undef, .undef] (fun o => o = .ret (.bool (lessF x y))) := fun hs => by
      have e : lessF x y = ((idxR 2 ((if lngF x < lngF y then lngF y else lngF x) + 1 + 1).toNat).all fun ts => decide (indF x ts < indF y ts)) := by
        unfold lessF
        rw [if_neg h1, if_neg (by rcases hs with h | h <;> simp [h])]
      have a1 := lng_le x hx
      have a2 := lng_le y hy
      generalize hM : (if lngF x < lngF y then lngF y else lngF x) = M at e
      have hMb : -1 ≤ M ∧ M ≤ 1001 := by rw [← hM]; split <;> omega
      walk_at "VC"
      refine ⟨⟨_, _, _, _, _, rfl⟩, es_nil ⟨_, S.l1, ?_⟩⟩
      walk_at "VC"
      refine ⟨⟨_, _, _, _, _, rfl⟩, es_nil ⟨_, S.l2, ?_⟩⟩
      walk_at "VC"
      refine ⟨_, _, rfl, rfl, ?_⟩
      rw [hM]
      walk_at "VC"
      have eM : M + 1 + 1 = (((M + 1 + 1).toNat : Nat) : Int) := by omega
      rw [eM]
      refine ⟨(2 : Nat), ((M + 1 + 1).toNat : Nat), 1, rfl, rfl, rfl, ⟨by decide, by decide, by decide, by omega⟩, ?_⟩
      refine ⟨_, iterV_list (by rw [rangeV_nat]; simp [idxR]; omega), ?_⟩
      rw [rangeV_nat]
      refine vc_less_loop x y S _ _ _ _ (fun i hi => ?_) (fun e' s' => ?_) (fun e' => ?_)
      · unfold idxR at hi
        obtain ⟨k, hk, rfl⟩ := List.mem_map.mp hi
        have := List.mem_range.mp hk
        omega
      · dsimp only
        walk_at "VC"
        rw [e, e']
      · dsimp only
        rw [e, e']
    cases hxs : x.s
    · refine o_and0 rfl ?_
      refine i_false rfl ?_
      walk_at "VC"
      exact key (.inl hxs)
    · refine p_and1 rfl ?_
      walk_at "VC"
      refine ⟨_, rfl, ?_⟩
      refine o_last ?_
      cases hys : y.s
      · refine i_false rfl ?_
        walk_at "VC"
        exact key (.inr hys)
      · refine i_true rfl ?_
        walk_at "VC"
        refine ⟨_, rfl, ?_⟩
        walk_at "VC"
        refine ⟨_, rfl, ?_⟩
        walk_at "VC"
        unfold lessF
        rw [if_neg h1, if_pos (by simp [hxs, hys])]
        have e : decide ((x.nt : Int) ≤ (y.nt : Int)) = decide (x.nt ≤ y.nt) := by
          by_cases h : x.nt ≤ y.nt
          · rw [decide_eq_true h, decide_eq_true (by omega)]
          · rw [decide_eq_false h, decide_eq_false (by omega)]
        rw [e]
end Mine

-- part 62
namespace Mine
variable {Sp : Nat → List V → V → Prop}
noncomputable def stripGo (z : Str) : List (Nat × List Nat) → Nat → Option Nat → List Str → Nat × List Str
  | [], st, _, res => (st, res)
  | (pos, ch) :: r, st, op, res => if ch = [34] then (match op with
    | none => stripGo z r st (some pos) res
    | some o => stripGo z r (pos + 1) none (if st = o then res else res ++ [Txt.slice z (some (st : Int)) (some (o : Int))])) else stripGo z r st op res
noncomputable def stripF (z : Str) : Str := if (Builtin.Str.occurrences z (Str.ofString "\"") 0 z.length 1).isEmpty then z else
  let q := stripGo z (escItems z.cps.toList 0 false) 0 none []
  Txt.join (Str.ofString "") (if q.1 < z.length then q.2 ++ [Txt.slice z (some (q.1 : Int)) none] else q.2)
noncomputable def opV : Option Nat → V
  | none => .none
  | some o => .int o
noncomputable abbrev stripρ (z : Str) (st : Nat) (op : Option Nat) (res : List Str) (a b : Slot) : List Slot := [.fro (.str z), .fro (.int st), .fro (opV op), .own (res.map .str), a, b]
noncomputable abbrev stripB : List CS := [.ite (.cmp .Eq (.var 5) (.str (Str.ofString "\""))) [.ite (.cmp .Is (.var 2) .none) [.assign 2 (.var 4)] [.ite (.cmp .NotEq (.var 1) (.var 2)) [.append 3 (.slcv 0 (some (.var 1)) (some (.var 2)) .none)] [], .assign 1 (.bin .Add (.var 4) (.int 1)), .assign 2 .none]] []]
theorem chr_eq {l : List Nat} {c : Nat} : ((⟨l.toArray⟩ : Str) == ⟨#[c]⟩) = decide (l = [c]) := by
  by_cases h : l = [c]
  · subst h; simp
  · rw [decide_eq_false h, beq_eq_false_iff_ne]
    intro q
    have : l.toArray = #[c] := congrArg Str.cps q
    exact h (by simpa using congrArg Array.toList this)
theorem qt_eq : Str.ofString "\"" = ⟨#[34]⟩ := by decide
theorem bl (z : Str) (hz : z.length ≤ 200) (lo hi : Option Int) : sliceV (.str z) lo hi none = some (.str (Txt.slice z lo hi)) := if_pos (by omega)
theorem vc_strip_loop (z : Str) (hz : z.length ≤ 200) (R : Out → Prop) : ∀ (l : List (Nat × List Nat)) (st : Nat) (op : Option Nat) (res : List Str) (a b : Slot), res.length + l.length ≤ 1000 → (∀ x ∈ res, x.length ≤ 200) →
    (∀ op' a' b', (∀ x ∈ (stripGo z l st op res).2, x.length ≤ 200) → (stripGo z l st op res).2.length ≤ 1000 → R (.next (stripρ z (stripGo z l st op res).1 op' (stripGo z l st op res).2 a' b'))) →
    forL (bindP 4 5) (fun ρ k => wpSs Sp stripB ρ k) (l.map escF) (stripρ z st op res a b) R
  | [], st, op, res, a, b, hn, hr, h => by
    refine f_nil ?_
    exact h op a b hr (by simpa [stripGo] using hn)
  | (pos, ch) :: l, st, op, res, a, b, hn, hr, h => by
    simp only [List.length_cons] at hn
    show forL _ _ (.tup [.int pos, .str ⟨ch.toArray⟩] :: l.map escF) _ _
    walk_at "VC"
    rw [qt_eq, chr_eq]
    by_cases hc : ch = [34]
    · refine i_true (decide_eq_true hc) ?_
      cases op with
      | none =>
        have e : stripGo z ((pos, ch) :: l) st none res = stripGo z l st (some pos) res := by rw [stripGo, if_pos hc]
        rw [e] at h
        dsimp only [opV]
        walk_at "VC"
        refine i_true rfl ?_
        walk_at "VC"
        exact vc_strip_loop z hz R l st (some pos) res _ _ (by omega) hr h
      | some o =>
        dsimp only [opV]
        walk_at "VC"
        refine i_false rfl ?_
        walk_at "VC"
        by_cases hso : st = o
        · have e : stripGo z ((pos, ch) :: l) st (some o) res = stripGo z l (pos + 1) none res := by rw [stripGo, if_pos hc]; simp only [hso, if_true]
          rw [e] at h
          refine i_false (by simp [hso]) ?_
          walk_at "VC"
          exact vc_strip_loop z hz R l (pos + 1) none res _ _ (by omega) hr h
        · have e : stripGo z ((pos, ch) :: l) st (some o) res = stripGo z l (pos + 1) none (res ++ [Txt.slice z (some (st : Int)) (some (o : Int))]) := by rw [stripGo, if_pos hc]; simp only [hso, if_false]
          rw [e] at h
          refine i_true (by simp; omega) ?_
          walk_at "VC"
          refine ⟨_, _, _, _, _, rfl, rfl, rfl, rfl, bl z hz _ _, ?_⟩
          walk_at "VC"
          have e2 : res.map V.str ++ [V.str (Txt.slice z (some (st : Int)) (some (o : Int)))] = (res ++ [Txt.slice z (some (st : Int)) (some (o : Int))]).map V.str := by simp
          rw [e2]
          refine vc_strip_loop z hz R l (pos + 1) none _ _ _ (by simp; omega) (fun x hx => ?_) h
          rcases List.mem_append.mp hx with hx | hx
          · exact hr x hx
          · simp at hx; subst hx; exact Nat.le_trans (Txt.slice_le ..) hz
    · have e : stripGo z ((pos, ch) :: l) st op res = stripGo z l st op res := by
        show (if ch = [34] then _ else _) = _
        rw [if_neg hc]
      rw [e] at h
      refine i_false (decide_eq_false hc) ?_
      walk_at "VC"
      exact vc_strip_loop z hz R l st op res _ _ (by omega) hr h
theorem escItems_len : ∀ (l : List Nat) (p : Nat) (b : Bool), (escItems l p b).length ≤ l.length + (if b then 1 else 0)
  | [], _, true => by simp [escItems]
  | [], _, false => by simp [escItems]
  | c :: r, p, true => by
    have := escItems_len r (p + 1) false
    simp only [escItems, List.length_cons] at this ⊢
    simp at this ⊢; omega
  | c :: r, p, false => by
    simp only [escItems]
    split
    · have := escItems_len r (p + 1) true
      simp at this ⊢; omega
    · have := escItems_len r (p + 1) false
      simp at this ⊢; omega
theorem sum_le : ∀ (l : List Str), (∀ x ∈ l, x.length ≤ 200) → (l.map (·.length)).sum ≤ 200 * l.length
  | [], _ => by simp
  | x :: l, h => by
    have h1 := h x (List.mem_cons_self ..)
    have h2 := sum_le l fun y hy => h y (List.mem_cons_of_mem _ hy)
    simp only [List.map_cons, List.sum_cons, List.length_cons]
    omega
theorem strsV_map (l : List Str) : strsV (l.map .str) = some l := by
  induction l with
  | nil => rfl
  | cons x l ih => exact congrArg (Option.map (x :: ·)) ih
theorem vc_strip (z : Str) (hz : z.length ≤ 200) : wpSs Sp co_strip_quoted_realnames [.fro (.str z), .undef, .undef, .undef, .undef, .undef] (fun o => o = .ret (.str (stripF z))) := by
  unfold co_strip_quoted_realnames
  walk_at "VC"
  by_cases hq : (Builtin.Str.occurrences z (Str.ofString "\"") 0 z.length 1).isEmpty = true
  · refine i_true hq ?_
    walk_at "VC"
    unfold stripF
    rw [if_pos hq]
  · refine i_false (by simpa using hq) ?_
    walk_at "VC"
    refine ⟨z, rfl, by omega, ?_⟩
    have hl : (escItems z.cps.toList 0 false).length ≤ 200 := Nat.le_trans (escItems_len _ _ _) (by simpa [Str.length] using hz)
    rw [escV_map]
    refine vc_strip_loop z hz _ _ 0 none [] _ _ (by rw [List.length_nil]; omega) (fun x hx => by cases hx) fun op' a' b' h1 h2 => ?_
    unfold stripF
    rw [if_neg hq]
    dsimp only
    generalize stripGo z (escItems z.cps.toList 0 false) 0 none [] = res at h1 h2 ⊢
    walk_at "VC"
    have hln : lenV (.str z) = some (z.length : Int) := if_pos (by omega)
    refine e_lenv rfl rfl hln ?_
    walk_at "VC"
    have fin : ∀ l : List Str, (∀ x ∈ l, x.length ≤ 200) → l.length ≤ 1001 → ∀ (st : Slot) (op : Slot) (a b : Slot), wpSs Sp [.ret (.join (.str (Str.ofString "")) (.var 3))] [.fro (.str z), st, op, .own (l.map .str), a, b] (fun o => o = .ret (.str (Txt.join (Str.ofString "") l))) := fun l h1 h2 st op a b => by
      walk_at "VC"
      refine ⟨_, rfl, ?_⟩
      walk_at "VC"
      refine ⟨_, _, rfl, strsV_map l, ?_, rfl⟩
      have := sum_le l h1
      have e0 : (Str.ofString "").length = 0 := by decide
      rw [e0]
      omega
    by_cases hlt : res.1 < z.length
    · refine i_true (decide_eq_true (by omega)) ?_
      walk_at "VC"
      refine ⟨_, _, _, _, _, rfl, rfl, rfl, rfl, bl z hz _ _, ?_⟩
      refine And.intro (by simp; omega) ?_
      rw [if_pos hlt]
      have e2 : res.2.map V.str ++ [V.str (Txt.slice z (some (res.1 : Int)) none)] = (res.2 ++ [Txt.slice z (some (res.1 : Int)) none]).map V.str := by simp
      show wpSs _ _ _ _
      rw [e2]
      refine fin _ (fun x hx => ?_) (by simp; omega) _ _ _ _
      rcases List.mem_append.mp hx with hx | hx
      · exact h1 x hx
      · simp at hx; subst hx; exact Nat.le_trans (Txt.slice_le ..) hz
    · refine i_false (decide_eq_false (by omega)) ?_
      rw [if_neg hlt]
      exact fin _ h1 (by omega) _ _ _ _
end Mine

-- part 63
namespace Mine
variable {Sp : Nat → List V → V → Prop}
noncomputable def chkGo : List (Nat × List Nat) → Nat → Option Nat
  | [], o => some o
  | (_, ch) :: r, o => if ch = [40] then chkGo r (o + 1) else if ch = [41] then (if o = 0 then none else chkGo r (o - 1)) else chkGo r o
noncomputable def checkF (z : Str) : Bool := chkGo (escItems (stripF z).cps.toList 0 false) 0 == some 0
noncomputable abbrev chkB : List CS := [.ite (.cmp .Eq (.var 3) (.str (Str.ofString "("))) [.aug 1 .Add (.int 1)] [.ite (.cmp .Eq (.var 3) (.str (Str.ofString ")"))) [.aug 1 .Sub (.int 1), .ite (.cmp .Lt (.var 1) (.int 0)) [.ret (.bool false)] []] []]]
theorem lp_eq : Str.ofString "(" = ⟨#[40]⟩ := by decide
theorem rp_eq : Str.ofString ")" = ⟨#[41]⟩ := by decide
theorem vc_check_loop (y : V) (R : Out → Prop) : ∀ (l : List (Nat × List Nat)) (o : Nat) (a b : Slot), (∀ k a' b', chkGo l o = some k → R (.next [.fro y, .fro (.int k), a', b'])) → (chkGo l o = none → R (.ret (.bool false))) →
    forL (bindP 2 3) (fun ρ k => wpSs Sp chkB ρ k) (l.map escF) [.fro y, .fro (.int o), a, b] R
  | [], o, a, b, h, _ => by
    refine f_nil ?_
    exact h o a b rfl
  | (pos, ch) :: l, o, a, b, h, h' => by
    show forL _ _ (.tup [.int pos, .str ⟨ch.toArray⟩] :: l.map escF) _ _
    walk_at "VC"
    rw [lp_eq, chr_eq]
    by_cases hc : ch = [40]
    · have e : chkGo ((pos, ch) :: l) o = chkGo l (o + 1) := by rw [chkGo, if_pos hc]
      rw [e] at h h'
      refine i_true (decide_eq_true hc) ?_
      walk_at "VC"
      exact vc_check_loop y R l (o + 1) _ _ h h'
    · refine i_false (decide_eq_false hc) ?_
      walk_at "VC"
      rw [rp_eq, chr_eq]
      by_cases hd : ch = [41]
      · refine i_true (decide_eq_true hd) ?_
        walk_at "VC"
        by_cases h0 : o = 0
        · have e : chkGo ((pos, ch) :: l) o = none := by rw [chkGo, if_neg hc, if_pos hd, if_pos h0]
          refine i_true (decide_eq_true (by omega)) ?_
          walk_at "VC"
          exact h' e
        · have e : chkGo ((pos, ch) :: l) o = chkGo l (o - 1) := by rw [chkGo, if_neg hc, if_pos hd, if_neg h0]
          rw [e] at h h'
          refine i_false (decide_eq_false (by omega)) ?_
          walk_at "VC"
          rw [show (o : Int) - 1 = ((o - 1 : Nat) : Int) by omega]
          exact vc_check_loop y R l (o - 1) _ _ h h'
      · have e : chkGo ((pos, ch) :: l) o = chkGo l o := by rw [chkGo, if_neg hc, if_neg hd]
        rw [e] at h h'
        refine i_false (decide_eq_false hd) ?_
        walk_at "VC"
        exact vc_check_loop y R l o _ _ h h'
theorem vc_check (z : Str) (hs : (stripF z).length ≤ 1000) (hS : Sp 1 [.str z] (.str (stripF z))) : wpSs Sp co_check_parenthesis [.fro (.str z), .undef, .undef, .undef] (fun o => o = .ret (.bool (checkF z))) := by
  unfold co_check_parenthesis
  walk_at "VC"
  refine ⟨_, hS, ?_⟩
  walk_at "VC"
  refine ⟨_, rfl, by omega, ?_⟩
  rw [escV_map]
  refine vc_check_loop _ _ _ 0 _ _ (fun k a' b' e => ?_) (fun e => ?_)
  · dsimp only
    walk_at "VC"
    unfold checkF
    rw [e]
    congr 2
    by_cases hk : k = 0
    · subst hk; rfl
    · have h1 : ((k : Int) == 0) = false := by simp; omega
      have h2 : (some k == some 0) = false := by simpa using hk
      rw [h1, h2]
  · dsimp only
    unfold checkF
    rw [e]
    rfl
noncomputable def stripC : List Nat → Bool → Bool → List Nat
  | [], _, _ => []
  | c :: r, true, q => if q then stripC r false q else c :: stripC r false q
  | c :: r, false, false => if c = 34 then stripC r false true else if c = 92 then c :: stripC r true false else c :: stripC r false false
  | c :: r, false, true => if c = 34 then stripC r false false else if c = 92 then stripC r true true else stripC r false true
noncomputable def evenQ : List Nat → Bool → Bool → Bool
  | [], _, q => !q
  | _ :: r, true, q => evenQ r false q
  | c :: r, false, q => if c = 34 then evenQ r false (!q) else if c = 92 then evenQ r true q else evenQ r false q
noncomputable def parC : List Nat → Bool → Nat → Option Nat
  | [], _, o => some o
  | _ :: r, true, o => parC r false o
  | c :: r, false, o => if c = 92 then parC r true o else if c = 40 then parC r false (o + 1) else if c = 41 then (if o = 0 then none else parC r false (o - 1)) else parC r false o
theorem chkGo_C : ∀ (l : List Nat) (p : Nat) (b : Bool) (o : Nat), chkGo (escItems l p b) o = parC l b o
  | [], p, true, o => by simp [escItems, chkGo, parC]
  | [], p, false, o => by simp [escItems, chkGo, parC]
  | c :: r, p, true, o => by
    simp only [escItems, chkGo, parC]
    rw [if_neg (by simp), if_neg (by simp)]
    exact chkGo_C r (p + 1) false o
  | c :: r, p, false, o => by
    simp only [escItems, parC]
    split
    · exact chkGo_C r (p + 1) true o
    · simp only [chkGo]
      by_cases h1 : c = 40
      · rw [if_pos (by simp [h1]), if_pos h1]; exact chkGo_C r (p + 1) false (o + 1)
      · rw [if_neg (by simp [h1]), if_neg h1]
        by_cases h2 : c = 41
        · rw [if_pos (by simp [h2]), if_pos h2]
          by_cases h3 : o = 0
          · rw [if_pos h3, if_pos h3]
          · rw [if_neg h3, if_neg h3]; exact chkGo_C r (p + 1) false (o - 1)
        · rw [if_neg (by simp [h2]), if_neg h2]; exact chkGo_C r (p + 1) false o
end Mine

-- part 64
namespace Mine
theorem join_cps (l : List Str) : (Txt.join (Str.ofString "") l).cps.toList = (l.map (·.cps.toList)).flatten := by
  have e0 : (Str.ofString "").cps = #[] := by decide
  cases l with
  | nil => decide
  | cons x l =>
    show ((l.foldl (fun acc p => acc ++ (Str.ofString "").cps ++ p.cps) x.cps)).toList = _
    rw [e0]
    have : ∀ (l : List Str) (a : Array Nat), (l.foldl (fun acc p => acc ++ #[] ++ p.cps) a).toList = a.toList ++ (l.map (·.cps.toList)).flatten := by
      intro l
      induction l with
      | nil => intro a; simp
      | cons y l ih => intro a; rw [List.foldl_cons, ih]; simp
    rw [this]; simp
theorem range_pick {cs : List Nat} (a n : Nat) (h : a + n ≤ cs.length) : ((List.range n).map fun k => a + k).filterMap (cs[·]?) = (cs.drop a).take n := by
  induction n generalizing a with
  | zero => simp
  | succ n ih =>
    rw [List.range_succ_eq_map, List.map_cons, List.map_map]
    have ha : a < cs.length := by omega
    rw [List.filterMap_cons, Nat.add_zero, List.getElem?_eq_getElem ha]
    have : (fun k => a + k) ∘ Nat.succ = fun k => (a + 1) + k := by funext k; simp only [Function.comp]; omega
    rw [this, ih (a + 1) (by omega), List.drop_eq_getElem_cons ha, List.take_succ_cons]
theorem slice_idx (st o n : Nat) (h1 : st ≤ o) (h2 : o ≤ n) : Builtin.Str.strSliceIndices (some (st : Int)) (some (o : Int)) 1 n = (List.range (o - st)).map fun k => st + k := by
  unfold Builtin.Str.strSliceIndices sliceRange
  simp only [show (1 : Int) > 0 by decide, if_true]
  have n1 : ¬ ((st : Int) < 0) := by omega
  have n2 : ¬ ((o : Int) < 0) := by omega
  have e1 : max 0 (min (st : Int) (n : Int)) = st := by omega
  have e2 : max 0 (min (o : Int) (n : Int)) = o := by omega
  simp only [n1, n2, if_false, e1, e2]
  have e3 : (if (st : Int) < (o : Int) then ((o : Int) - st + 1 - 1) / 1 else 0).toNat = o - st := by
    rw [Int.ediv_one]
    split <;> omega
  rw [e3]
  refine List.map_congr_left fun k _ => ?_
  omega
theorem slice_cps (z : Str) (st o : Nat) (h1 : st ≤ o) (h2 : o ≤ z.length) : (Txt.slice z (some (st : Int)) (some (o : Int))).cps.toList = (z.cps.toList.take o).drop st := by
  unfold Txt.slice
  rw [slice_idx st o _ h1 h2]
  have hl : z.length = z.cps.toList.length := by simp [Str.length]
  split
  · rename_i h
    simp at h
    have : st = 0 ∧ o = z.length := by omega
    obtain ⟨rfl, rfl⟩ := this
    rw [List.drop_zero, List.take_of_length_le (by omega)]
  · have := range_pick (cs := z.cps.toList) st (o - st) (by omega)
    show ((List.range (o - st)).map fun k => st + k).filterMap (z.cps[·]?) = _
    have e : (fun x : Nat => z.cps[x]?) = fun x : Nat => z.cps.toList[x]? := by funext x; simp
    rw [e, this, List.drop_take]
theorem slice_to (z : Str) (st : Nat) (h1 : st ≤ z.length) : (Txt.slice z (some (st : Int)) none).cps.toList = z.cps.toList.drop st := by
  have : Builtin.Str.strSliceIndices (some (st : Int)) none 1 z.length = Builtin.Str.strSliceIndices (some (st : Int)) (some (z.length : Int)) 1 z.length := by
    unfold Builtin.Str.strSliceIndices
    simp only [show (1 : Int) > 0 by decide, if_true]
    congr 1
    split <;> omega
  have e : Txt.slice z (some (st : Int)) none = Txt.slice z (some (st : Int)) (some (z.length : Int)) := by
    unfold Txt.slice
    rw [this]
  rw [e, slice_cps z st _ h1 (Nat.le_refl _), List.take_of_length_le (by simp [Str.length])]
end Mine

-- part 65
namespace Mine
noncomputable def catS (l : List Str) : List Nat := (l.map (·.cps.toList)).flatten
noncomputable def keptS (cs : List Nat) (p st : Nat) : Option Nat → List Nat
  | none => (cs.take p).drop st
  | some o => (cs.take o).drop st
theorem take_succ_get {cs : List Nat} {p c : Nat} {r : List Nat} (h : cs.drop p = c :: r) : p < cs.length ∧ cs.take (p + 1) = cs.take p ++ [c] ∧ cs.drop (p + 1) = r := by
  have hlt : p < cs.length := by
    rcases Nat.lt_or_ge p cs.length with h' | h'
    · exact h'
    · rw [List.drop_of_length_le h'] at h; cases h
  rw [List.drop_eq_getElem_cons hlt] at h
  cases h
  exact ⟨hlt, (List.take_append_getElem hlt).symm, rfl⟩
theorem kept_next {cs : List Nat} {p c st : Nat} {r : List Nat} (h : cs.drop p = c :: r) (hs : st ≤ p) : (cs.take (p + 1)).drop st = (cs.take p).drop st ++ [c] := by
  obtain ⟨h1, h2, _⟩ := take_succ_get h
  rw [h2, List.drop_append_of_le_length (by rw [List.length_take]; omega)]
theorem strip_inv (z : Str) : ∀ (r : List Nat) (p : Nat) (b : Bool) (st : Nat) (op : Option Nat) (res : List Str), z.cps.toList.drop p = r → p ≤ z.length → st ≤ p → (∀ o, op = some o → st ≤ o ∧ o < p) → evenQ r b op.isSome = true →
    (stripGo z (escItems r p b) st op res).1 ≤ z.length ∧ catS (stripGo z (escItems r p b) st op res).2 ++ z.cps.toList.drop (stripGo z (escItems r p b) st op res).1 = catS res ++ keptS z.cps.toList p st op ++ stripC r b op.isSome
  | [], p, b, st, op, res, hr, hp, hs, ho, he => by
    have hn : op = none := by
      cases op with
      | none => rfl
      | some o => simp [evenQ] at he
    subst hn
    have e : stripGo z (escItems [] p b) st none res = (st, res) := by
      cases b
      · simp [escItems, stripGo]
      · simp [escItems, stripGo]
    rw [e]
    have hpl : z.cps.toList.length ≤ p := by
      rcases Nat.lt_or_ge p z.cps.toList.length with h | h
      · rw [List.drop_eq_getElem_cons h] at hr; cases hr
      · exact h
    refine ⟨by show st ≤ z.length; omega, ?_⟩
    simp only [stripC, List.append_nil, keptS]
    rw [List.take_of_length_le hpl]
  | c :: r, p, true, st, op, res, hr, hp, hs, ho, he => by
    obtain ⟨h1, h2, h3⟩ := take_succ_get hr
    have hl : z.length = z.cps.toList.length := by simp [Str.length]
    have ih := strip_inv z r (p + 1) false st op res h3 (by omega) (by omega) (fun o e => ⟨(ho o e).1, Nat.lt_succ_of_lt (ho o e).2⟩) (by simpa [evenQ] using he)
    have e : stripGo z (escItems (c :: r) p true) st op res = stripGo z (escItems r (p + 1) false) st op res := by
      show stripGo z ((p, [92, c]) :: _) _ _ _ = _
      show (if ([92, c] : List Nat) = [34] then _ else _) = _
      rw [if_neg (by simp)]
    rw [e]
    refine ⟨ih.1, ih.2.trans ?_⟩
    cases op with
    | none => simp only [keptS, stripC, Option.isSome_none, Bool.false_eq_true, if_false]; rw [kept_next hr hs]; simp
    | some o => simp [keptS, stripC]
  | c :: r, p, false, st, op, res, hr, hp, hs, ho, he => by
    obtain ⟨h1, h2, h3⟩ := take_succ_get hr
    have hl : z.length = z.cps.toList.length := by simp [Str.length]
    by_cases h92 : c = 92
    · have e : escItems (c :: r) p false = escItems r (p + 1) true := by
        show (if c = 92 then _ else _) = _
        rw [if_pos h92]
      rw [e]
      have n34 : c ≠ 34 := by omega
      have ih := strip_inv z r (p + 1) true st op res h3 (by omega) (by omega) (fun o e => ⟨(ho o e).1, Nat.lt_succ_of_lt (ho o e).2⟩) (by
        simp only [evenQ, n34, h92, if_true, if_false] at he
        exact he)
      refine ⟨ih.1, ih.2.trans ?_⟩
      cases op with
      | none => simp only [keptS, stripC, Option.isSome_none, n34, if_false, h92, if_true]; rw [kept_next hr hs]; simp [h92]
      | some o => simp only [keptS, stripC, Option.isSome_some, n34, if_false, h92, if_true]; simp
    · have e : escItems (c :: r) p false = (p, [c]) :: escItems r (p + 1) false := by
        show (if c = 92 then _ else _) = _
        rw [if_neg h92]
      rw [e]
      by_cases h34 : c = 34
      · subst h34
        cases op with
        | none =>
          have e2 : stripGo z ((p, [34]) :: escItems r (p + 1) false) st none res = stripGo z (escItems r (p + 1) false) st (some p) res := by
            show (if ([34] : List Nat) = [34] then _ else _) = _
            rw [if_pos rfl]
          rw [e2]
          have ih := strip_inv z r (p + 1) false st (some p) res h3 (by omega) (by omega) (fun o e => by cases e; exact ⟨hs, Nat.lt_succ_self _⟩) (by simpa [evenQ] using he)
          refine ⟨ih.1, ih.2.trans ?_⟩
          simp [keptS, stripC]
        | some o =>
          obtain ⟨o1, o2⟩ := ho o rfl
          have e2 : stripGo z ((p, [34]) :: escItems r (p + 1) false) st (some o) res = stripGo z (escItems r (p + 1) false) (p + 1) none (if st = o then res else res ++ [Txt.slice z (some (st : Int)) (some (o : Int))]) := by
            show (if ([34] : List Nat) = [34] then _ else _) = _
            rw [if_pos rfl]
          rw [e2]
          have ih := strip_inv z r (p + 1) false (p + 1) none (if st = o then res else res ++ [Txt.slice z (some (st : Int)) (some (o : Int))]) h3 (by omega) (Nat.le_refl _) (fun o e => by cases e) (by simpa [evenQ] using he)
          refine ⟨ih.1, ih.2.trans ?_⟩
          have k1 : keptS z.cps.toList (p + 1) (p + 1) none = [] := by
            simp only [keptS]
            exact List.drop_of_length_le (by rw [List.length_take]; omega)
          rw [k1]
          have k2 : catS (if st = o then res else res ++ [Txt.slice z (some (st : Int)) (some (o : Int))]) = catS res ++ (z.cps.toList.take o).drop st := by
            by_cases hso : st = o
            · rw [if_pos hso, hso, List.drop_of_length_le (by rw [List.length_take]; omega)]; simp
            · rw [if_neg hso]
              have := slice_cps z st o o1 (by omega)
              simp [catS, this]
          rw [k2]
          simp [keptS, stripC]
      · have e2 : stripGo z ((p, [c]) :: escItems r (p + 1) false) st op res = stripGo z (escItems r (p + 1) false) st op res := by
          show (if ([c] : List Nat) = [34] then _ else _) = _
          rw [if_neg (by simpa using h34)]
        rw [e2]
        have ih := strip_inv z r (p + 1) false st op res h3 (by omega) (by omega) (fun o e => ⟨(ho o e).1, Nat.lt_succ_of_lt (ho o e).2⟩) (by
          simp only [evenQ, h34, h92, if_false] at he
          exact he)
        refine ⟨ih.1, ih.2.trans ?_⟩
        cases op with
        | none => simp only [keptS, stripC, Option.isSome_none, h34, h92, if_false]; rw [kept_next hr hs]; simp
        | some o => simp [keptS, stripC, h34, h92]
theorem strip_noq : ∀ (l : List Nat) (b : Bool), 34 ∉ l → stripC l b false = l
  | [], _, _ => by simp [stripC]
  | c :: r, true, h => by
    simp only [List.mem_cons, not_or] at h
    simp [stripC, strip_noq r false h.2]
  | c :: r, false, h => by
    simp only [List.mem_cons, not_or] at h
    have : c ≠ 34 := Ne.symm h.1
    simp only [stripC, this, if_false]
    split <;> simp [strip_noq r _ h.2]
theorem stripF_C (z : Str) (he : evenQ z.cps.toList false false = true) : (stripF z).cps.toList = stripC z.cps.toList false false := by
  unfold stripF
  have fo := StrLaws.found_one z 34
  rw [← qt_eq] at fo
  by_cases hq : (Builtin.Str.occurrences z (Str.ofString "\"") 0 z.length 1).isEmpty = true
  · rw [if_pos hq]
    rw [hq] at fo
    have : 34 ∉ z.cps.toList := by simpa using fo.symm
    rw [strip_noq _ _ this]
  · rw [if_neg hq]
    have hz : z.cps.toList.drop 0 = z.cps.toList := List.drop_zero
    obtain ⟨h1, h2⟩ := strip_inv z z.cps.toList 0 false 0 none [] rfl (Nat.zero_le _) (Nat.le_refl _) (fun o e => by cases e) he
    dsimp only
    generalize stripGo z (escItems z.cps.toList 0 false) 0 none [] = q at h1 h2 ⊢
    rw [join_cps]
    have h2 : catS q.2 ++ z.cps.toList.drop q.1 = stripC z.cps.toList false false := by simpa [catS, keptS] using h2
    rw [← h2]
    unfold catS
    split
    · rw [List.map_append, List.flatten_append]
      have := slice_to z q.1 h1
      simp [this]
    · have hl : z.length = z.cps.toList.length := by simp [Str.length]
      rw [List.drop_of_length_le (by omega)]; simp
theorem checkF_C (z : Str) (he : evenQ z.cps.toList false false = true) : checkF z = (parC (stripC z.cps.toList false false) false 0 == some 0) := by
  unfold checkF
  rw [chkGo_C, stripF_C z he]
end Mine

-- part 66
namespace Mine
noncomputable def openL : List (List Nat) := [[40], [92, 92, 40], [92, 41, 40], [34, 41, 34, 40]]
noncomputable def closeL : List (List Nat) := [[41], [92, 92, 41], [92, 40, 41], [34, 40, 34, 41]]
noncomputable def balF : List Bool → Nat → Bool
  | [], o => o == 0
  | true :: r, o => balF r (o + 1)
  | false :: r, o => if o = 0 then false else balF r (o - 1)
noncomputable def PieceOk (p : Bool × Str) : Prop := p.2.cps.toList ∈ (if p.1 then openL else closeL)
theorem piece_ev {p : Bool × Str} (h : PieceOk p) (r : List Nat) : evenQ (p.2.cps.toList ++ r) false false = evenQ r false false ∧
    ∃ x', stripC (p.2.cps.toList ++ r) false false = x' ++ stripC r false false ∧ ∀ (r' : List Nat) (o : Nat), parC (x' ++ r') false o = if p.1 then parC r' false (o + 1) else if o = 0 then none else parC r' false (o - 1) := by
  obtain ⟨b, s⟩ := p
  unfold PieceOk at h
  simp only at h ⊢
  generalize s.cps.toList = l at h ⊢
  cases b
  · simp only [Bool.false_eq_true, if_false] at h
    unfold closeL at h
    simp only [List.mem_cons, List.not_mem_nil, or_false] at h
    rcases h with rfl | rfl | rfl | rfl
    · exact ⟨by simp [evenQ], [41], by simp [stripC], fun r' o => by simp [parC]⟩
    · exact ⟨by simp [evenQ], [92, 92, 41], by simp [stripC], fun r' o => by simp [parC]⟩
    · exact ⟨by simp [evenQ], [92, 40, 41], by simp [stripC], fun r' o => by simp [parC]⟩
    · exact ⟨by simp [evenQ], [41], by simp [stripC], fun r' o => by simp [parC]⟩
  · simp only [if_true] at h
    unfold openL at h
    simp only [List.mem_cons, List.not_mem_nil, or_false] at h
    rcases h with rfl | rfl | rfl | rfl
    · exact ⟨by simp [evenQ], [40], by simp [stripC], fun r' o => by simp [parC]⟩
    · exact ⟨by simp [evenQ], [92, 92, 40], by simp [stripC], fun r' o => by simp [parC]⟩
    · exact ⟨by simp [evenQ], [92, 41, 40], by simp [stripC], fun r' o => by simp [parC]⟩
    · exact ⟨by simp [evenQ], [40], by simp [stripC], fun r' o => by simp [parC]⟩
theorem pieces_ev : ∀ (ps : List (Bool × Str)), (∀ p ∈ ps, PieceOk p) → evenQ (catS (ps.map (·.2))) false false = true ∧ ∀ o, (parC (stripC (catS (ps.map (·.2))) false false) false o == some 0) = balF (ps.map (·.1)) o
  | [], _ => ⟨rfl, fun o => by
    show (some o == some 0) = (o == 0)
    simp⟩
  | p :: ps, h => by
    obtain ⟨i1, i2⟩ := pieces_ev ps fun q hq => h q (List.mem_cons_of_mem _ hq)
    obtain ⟨h1, x', h2, h3⟩ := piece_ev (h p (List.mem_cons_self ..)) (catS (ps.map (·.2)))
    have e : catS ((p :: ps).map (·.2)) = p.2.cps.toList ++ catS (ps.map (·.2)) := by simp [catS]
    rw [e]
    refine ⟨h1.trans i1, fun o => ?_⟩
    rw [h2, h3]
    obtain ⟨b, s⟩ := p
    cases b
    · simp only [List.map_cons, balF, Bool.false_eq_true, if_false]
      by_cases h0 : o = 0
      · rw [if_pos h0, if_pos h0]; rfl
      · rw [if_neg h0, if_neg h0]; exact i2 (o - 1)
    · simp only [List.map_cons, balF, if_true]
      exact i2 (o + 1)
theorem check_pieces (ps : List (Bool × Str)) (h : ∀ p ∈ ps, PieceOk p) : checkF (Txt.join (Str.ofString "") (ps.map (·.2))) = balF (ps.map (·.1)) 0 := by
  obtain ⟨h1, h2⟩ := pieces_ev ps h
  have e : (Txt.join (Str.ofString "") (ps.map (·.2))).cps.toList = catS (ps.map (·.2)) := join_cps _
  rw [checkF_C _ (e ▸ h1), e]
  exact h2 0
theorem piece_len {p : Bool × Str} (h : PieceOk p) : p.2.length ≤ 4 := by
  obtain ⟨b, s⟩ := p
  unfold PieceOk at h
  have hl : s.length = s.cps.toList.length := by simp [Str.length]
  show s.length ≤ 4
  rw [hl]
  simp only at h
  generalize s.cps.toList = l at h ⊢
  cases b <;> simp [openL, closeL] at h <;> rcases h with rfl | rfl | rfl | rfl <;> simp
theorem strip_len (z : Str) (he : evenQ z.cps.toList false false = true) : (stripF z).length ≤ z.length := by
  have h1 : (stripF z).length = (stripF z).cps.toList.length := by simp [Str.length]
  have h2 : z.length = z.cps.toList.length := by simp [Str.length]
  rw [h1, h2, stripF_C z he]
  have : ∀ (l : List Nat) (b q : Bool), (stripC l b q).length ≤ l.length := by
    intro l
    induction l with
    | nil => intro b q; simp [stripC]
    | cons c r ih =>
      intro b q
      have i1 := ih false q
      have i2 := ih false true
      have i3 := ih true false
      have i4 := ih false false
      have i5 := ih true true
      cases b <;> cases q <;> simp only [stripC, List.length_cons] <;> (repeat' split) <;> (try simp only [List.length_cons]) <;> omega
  exact this _ _ _
end Mine

-- part 67
namespace Mine
variable {Sp : Nat → List V → V → Prop}
noncomputable def natsV (l : List Nat) : List V := l.map fun (n : Nat) => V.int n
theorem nats_get {l : List Nat} {i : Nat} (h : i < l.length) (hl : l.length ≤ 1048576) : idxV (.list (natsV l)) (.int i) = some (.int (l.getD i 0 : Nat)) := by
  have e : natsV l = intsV (l.map Int.ofNat) := by simp [natsV, intsV]
  have := intsV_get (cnt := l.map Int.ofNat) (b := i) (by simpa using h)
  rw [e, this, if_pos (by simpa using hl)]
  simp [List.getD_eq_getElem?_getD, h]
theorem seq_nat {i n : Nat} (h : i < n) : seqIndex? (i : Int) n = some i := by
  unfold seqIndex?
  simp [h]
  omega
theorem strs_get {l : List Str} {i : Nat} (h : i < l.length) (hl : l.length ≤ 1048576) : idxV (.list (l.map .str)) (.int i) = some (.str (l.getD i ⟨#[]⟩)) := by
  show (if (l.map V.str).length ≤ 1048576 then (seqIndex? (i : Int) (l.map V.str).length).bind ((l.map V.str)[·]?) else none) = _
  rw [if_pos (by simpa using hl), List.length_map, seq_nat h]
  simp [List.getD_eq_getElem?_getD, h]
noncomputable def openS : List Str := [Str.ofString "(", Str.ofString "\\\\(", Str.ofString "\\)(", Str.ofString "\")\"("]
noncomputable def closeS : List Str := [Str.ofString ")", Str.ofString "\\\\)", Str.ofString "\\()", Str.ofString "\"(\")"]
noncomputable def opM (tells : List Nat) (i : Nat) : Str := openS.getD (tells.getD i 0 / 72 % 4) ⟨#[]⟩
noncomputable def clM (tells : List Nat) (i : Nat) : Str := closeS.getD (tells.getD i 0 / 288 % 4) ⟨#[]⟩
noncomputable def popTo (cl : Nat → Str) (k : Nat) : List Nat → List (Bool × Str) → List Nat × List (Bool × Str)
  | [], pcs => ([], pcs)
  | x :: stk, pcs => if k < stk.length + 1 then popTo cl k stk (pcs ++ [(false, cl x)]) else (x :: stk, pcs)
noncomputable abbrev mailρ (page tells : List Nat) (pcs : List (Bool × Str)) (plc stk : List Nat) (i e b s : Slot) : List Slot :=
  [.fro (.list (natsV page)), .fro (.list (natsV tells)), .fro (.list (openS.map .str)), .fro (.list (closeS.map .str)), .own ((pcs.map (·.2)).map .str), .own (natsV plc), .own (natsV stk.reverse), i, e, b, s]
noncomputable abbrev popB : List CS := [.append 4 (.subv 3 (.bin .Mod (.bin .FloorDiv (.subv 1 (.pop 6)) (.int 288)) (.int 4)))]
theorem lenV_nats {l : List Nat} (h : l.length ≤ 1048576) : lenV (.list (natsV l)) = some (l.length : Int) := by
  show (if (natsV l).length ≤ 1048576 then some ((natsV l).length : Int) else none) = _
  simp [natsV, h]
theorem vc_popB (page tells : List Nat) (pcs : List (Bool × Str)) (plc stk : List Nat) (x : Nat) (i e b s : Slot) (R : Out → Prop) (hx : x < tells.length) (ht : tells.length ≤ 100) (hs : stk.length ≤ 100) (hp : pcs.length ≤ 100)
    (h : R (.next (mailρ page tells (pcs ++ [(false, clM tells x)]) plc stk i e b s))) : wpSs Sp popB (mailρ page tells pcs plc (x :: stk) i e b s) R := by
  unfold popB
  refine s_cons (s_append rfl (e_subv rfl (by simp [slotV]) (e_bin (e_bin (e_subv rfl (by simp [slotV]) (e_pop (v := .int (x : Nat)) rfl ?_ ?_ ?_))))))
  · simp [natsV]
  · simp [natsV]; omega
  have ed : (natsV (x :: stk).reverse).dropLast = natsV stk.reverse := by simp [natsV]
  rw [ed]
  refine x_get rfl (nats_get hx (by omega)) ?_
  walk_at "VC"
  refine b_div (by decide) ?_
  rw [show (288 : Int) = ((288 : Nat) : Int) from rfl, fdiv_nat]
  walk_at "VC"
  refine b_mod (by decide) ?_
  rw [show (4 : Int) = ((4 : Nat) : Int) from rfl, fmod_nat]
  refine x_get rfl (strs_get (l := closeS) (by show _ < 4; omega) (by decide)) ?_
  refine And.intro (by simp; omega) ?_
  show R (.next _)
  have e2 : ((pcs.map (·.2)).map V.str) ++ [V.str (closeS.getD (tells.getD x 0 / 288 % 4) ⟨#[]⟩)] = ((pcs ++ [(false, clM tells x)]).map (·.2)).map V.str := by simp [clM]
  unfold mailρ at h
  rw [← e2] at h
  exact h
theorem popTo_len (cl : Nat → Str) (k : Nat) : ∀ (stk : List Nat) (pcs : List (Bool × Str)), (popTo cl k stk pcs).1.length ≤ stk.length ∧ (popTo cl k stk pcs).2.length + (popTo cl k stk pcs).1.length = pcs.length + stk.length
  | [], pcs => by simp [popTo]
  | x :: stk, pcs => by
    unfold popTo
    split
    · have := popTo_len cl k stk (pcs ++ [(false, cl x)])
      simp at this ⊢; omega
    · simp
theorem vc_popW (page tells : List Nat) (plc : List Nat) (j : Nat) (e b s : Slot) (hj : j < page.length) (hpg : page.length ≤ 100) (ht : tells.length ≤ 100) (R : Out → Prop) : ∀ (stk : List Nat) (pcs : List (Bool × Str)), (∀ x ∈ stk, x < tells.length) → stk.length + pcs.length ≤ 100 →
    R (.next (mailρ page tells (popTo (clM tells) (page.getD j 0) stk pcs).2 plc (popTo (clM tells) (page.getD j 0) stk pcs).1 (.fro (.int j)) e b s)) →
    whileN (fun ρ k => wpE Sp (.cmp .Gt (.lenv 6) (.subv 0 (.var 7))) ρ fun v ρ₁ => ∃ x, v = .bool x ∧ k x ρ₁) (fun ρ k => wpSs Sp popB ρ k) (stk.length + 1) (mailρ page tells pcs plc stk (.fro (.int j)) e b s) R
  | [], pcs, _, hl, h => by
    refine w_step (e_cmp (e_lenv (n := 0) rfl rfl rfl (e_subv rfl (by simp [slotV]) (e_fro rfl (x_get rfl (nats_get hj (by omega)) (c_gt (iw_false (decide_eq_false (by omega)) ?_)))))))
    exact h
  | x :: stk, pcs, hx, hl, h => by
    simp only [List.length_cons] at hl ⊢
    have hlen : lenV (.list (natsV (x :: stk).reverse)) = some ((stk.length + 1 : Nat) : Int) := by
      rw [lenV_nats (by simp; omega)]; simp
    refine w_step (e_cmp (e_lenv rfl rfl hlen (e_subv rfl (by simp [slotV]) (e_fro rfl (x_get rfl (nats_get hj (by omega)) (c_gt ?_))))))
    unfold popTo at h
    by_cases hk : page.getD j 0 < stk.length + 1
    · rw [if_pos hk] at h
      refine iw_true (decide_eq_true (by omega)) ?_
      refine vc_popB page tells pcs plc stk x _ e b s _ (hx x (List.mem_cons_self ..)) ht (by omega) (by omega) ?_
      refine l_next ?_
      exact vc_popW page tells plc j e b s hj hpg ht R stk _ (fun y hy => hx y (List.mem_cons_of_mem _ hy)) (by simp; omega) h
    · rw [if_neg hk] at h
      refine iw_false (decide_eq_false (by omega)) ?_
      exact h
theorem vc_popE (page tells : List Nat) (plc : List Nat) (i e b s : Slot) (ht : tells.length ≤ 100) (R : Out → Prop) : ∀ (stk : List Nat) (pcs : List (Bool × Str)), (∀ x ∈ stk, x < tells.length) → stk.length + pcs.length ≤ 100 →
    R (.next (mailρ page tells (popTo (clM tells) 0 stk pcs).2 plc [] i e b s)) →
    whileN (fun ρ k => wpE Sp (.ne0 6) ρ fun v ρ₁ => ∃ x, v = .bool x ∧ k x ρ₁) (fun ρ k => wpSs Sp popB ρ k) (stk.length + 1) (mailρ page tells pcs plc stk i e b s) R
  | [], pcs, _, hl, h => by
    refine w_step (e_ne0 rfl rfl rfl (iw_false rfl ?_))
    exact h
  | x :: stk, pcs, hx, hl, h => by
    simp only [List.length_cons] at hl ⊢
    have hpl : V.plain 4 (.list (natsV (x :: stk).reverse)) = true := by
      rw [plain_all]
      intro v hv
      obtain ⟨y, _, rfl⟩ := List.mem_map.mp hv
      rfl
    refine w_step (e_ne0 rfl rfl hpl (iw_true (by simp [natsV]) ?_))
    unfold popTo at h
    rw [if_pos (Nat.succ_pos _)] at h
    refine vc_popB page tells pcs plc stk x _ e b s _ (hx x (List.mem_cons_self ..)) ht (by omega) (by omega) ?_
    refine l_next ?_
    exact vc_popE page tells plc i e b s ht R stk _ (fun y hy => hx y (List.mem_cons_of_mem _ hy)) (by simp; omega) h
end Mine

-- part 68
namespace Mine
variable {Sp : Nat → List V → V → Prop}
noncomputable abbrev bld1 : List CS := [.whil (.cmp .Gt (.lenv 6) (.subv 0 (.var 7))) popB, .append 5 (.lenv 4), .append 4 (.subv 2 (.bin .Mod (.bin .FloorDiv (.subv 1 (.var 7)) (.int 72)) (.int 4))), .append 6 (.var 7)]
structure Bl where
  stk : List Nat
  pcs : List (Bool × Str)
  plc : List Nat
noncomputable def stepM (page tells : List Nat) (i : Nat) (q : Bl) : Bl :=
  ⟨i :: (popTo (clM tells) (page.getD i 0) q.stk q.pcs).1, (popTo (clM tells) (page.getD i 0) q.stk q.pcs).2 ++ [(true, opM tells i)], q.plc ++ [(popTo (clM tells) (page.getD i 0) q.stk q.pcs).2.length]⟩
noncomputable abbrev mailR (page tells : List Nat) (q : Bl) (i e b s : Slot) : List Slot := mailρ page tells q.pcs q.plc q.stk i e b s
theorem popTo_mem (cl : Nat → Str) (k : Nat) : ∀ (stk : List Nat) (pcs : List (Bool × Str)), ∀ x ∈ (popTo cl k stk pcs).1, x ∈ stk
  | [], pcs, x, h => by simp [popTo] at h
  | y :: stk, pcs, x, h => by
    unfold popTo at h
    split at h
    · exact List.mem_cons_of_mem _ (popTo_mem cl k stk _ x h)
    · exact h
theorem vc_bld1 (page tells : List Nat) (q : Bl) (i : Nat) (e b s : Slot) (R : Out → Prop) (hi : i < page.length) (hit : i < tells.length) (hpg : page.length ≤ 100) (ht : tells.length ≤ 100) (hq : ∀ x ∈ q.stk, x < tells.length) (hl : q.stk.length + q.pcs.length ≤ 50) (hpl : q.plc.length ≤ 50)
    (h : R (.next (mailR page tells (stepM page tells i q) (.fro (.int i)) e b s))) : wpSs Sp bld1 (mailR page tells q (.fro (.int i)) e b s) R := by
  unfold bld1
  refine s_cons (s_whil (q.stk.length + 1) (vc_popW page tells q.plc i e b s hi hpg ht _ q.stk q.pcs hq (by omega) ?_))
  have hpop := popTo_len (clM tells) (page.getD i 0) q.stk q.pcs
  unfold stepM at h
  generalize hP : popTo (clM tells) (page.getD i 0) q.stk q.pcs = P at hpop h ⊢
  obtain ⟨stk', pcs'⟩ := P
  dsimp only at hpop h ⊢
  have hlen : lenV (.list ((pcs'.map (·.2)).map .str)) = some (pcs'.length : Int) := by
    show (if ((pcs'.map (·.2)).map V.str).length ≤ 1048576 then some (((pcs'.map (·.2)).map V.str).length : Int) else none) = _
    simp; omega
  refine s_cons (s_append rfl (e_lenv rfl rfl hlen ?_))
  refine And.intro (by simp [natsV]; omega) ?_
  refine s_cons (s_append rfl (e_subv rfl (by simp [slotV]) (e_bin (e_bin (e_subv rfl (by simp [slotV]) (e_fro rfl (x_get rfl (nats_get hit (by omega)) ?_)))))))
  refine e_int (b_div (by decide) ?_)
  rw [show (72 : Int) = ((72 : Nat) : Int) from rfl, fdiv_nat]
  refine e_int (b_mod (by decide) ?_)
  rw [show (4 : Int) = ((4 : Nat) : Int) from rfl, fmod_nat]
  refine x_get rfl (strs_get (l := openS) (by show _ < 4; omega) (by decide)) ?_
  refine And.intro (by simp; omega) ?_
  refine s_cons (s_append rfl (e_fro rfl ?_))
  refine And.intro (by simp [natsV]; omega) ?_
  refine s_nil ?_
  have e1 : ((pcs'.map (·.2)).map V.str) ++ [V.str (openS.getD (tells.getD i 0 / 72 % 4) ⟨#[]⟩)] = ((pcs' ++ [(true, opM tells i)]).map (·.2)).map V.str := by simp [opM]
  have e2 : natsV q.plc ++ [V.int (pcs'.length : Nat)] = natsV (q.plc ++ [pcs'.length]) := by simp [natsV]
  have e3 : natsV stk'.reverse ++ [V.int (i : Nat)] = natsV (i :: stk').reverse := by simp [natsV]
  unfold mailR mailρ at h
  dsimp only at h
  rw [← e1, ← e2, ← e3] at h
  exact h
noncomputable def bldM (page tells : List Nat) : Bl :=
  let q := stepM page tells 3 (stepM page tells 2 (stepM page tells 1 (stepM page tells 0 ⟨[], [], []⟩)))
  ⟨[], (popTo (clM tells) 0 q.stk q.pcs).2, q.plc⟩
theorem step_bounds {page tells : List Nat} {i k : Nat} {q : Bl} (hit : i < tells.length) (hq : ∀ x ∈ q.stk, x < tells.length) (hl : q.stk.length + q.pcs.length ≤ k) (hp : q.plc.length ≤ k) :
    (∀ x ∈ (stepM page tells i q).stk, x < tells.length) ∧ (stepM page tells i q).stk.length + (stepM page tells i q).pcs.length ≤ k + 2 ∧ (stepM page tells i q).plc.length ≤ k + 2 := by
  have hpop := popTo_len (clM tells) (page.getD i 0) q.stk q.pcs
  refine ⟨fun x hx => ?_, ?_, ?_⟩
  · simp only [stepM, List.mem_cons] at hx
    rcases hx with rfl | hx
    · exact hit
    · exact hq x (popTo_mem _ _ _ _ x hx)
  · simp only [stepM, List.length_cons, List.length_append, List.length_nil]
    omega
  · simp only [stepM, List.length_append, List.length_cons, List.length_nil]
    omega
theorem vc_mail1 (page tells : List Nat) (hp4 : page.length = 4) (ht4 : tells.length = 4) (i e b s : Slot) (rest : List CS) (R : Out → Prop)
    (h : ∀ i', wpSs Sp rest (mailR page tells (bldM page tells) i' e b s) R) :
    wpSs Sp (.for1 7 (.range (.int 0) (.int 4) (.int 1)) bld1 :: .whil (.ne0 6) popB :: rest) (mailR page tells ⟨[], [], []⟩ i e b s) R := by
  have b0 := step_bounds (page := page) (tells := tells) (i := 0) (k := 0) (q := ⟨[], [], []⟩) (by omega) (by simp) (by simp) (by simp)
  have b1 := step_bounds (page := page) (tells := tells) (i := 1) (by omega) b0.1 b0.2.1 b0.2.2
  have b2 := step_bounds (page := page) (tells := tells) (i := 2) (by omega) b1.1 b1.2.1 b1.2.2
  have b3 := step_bounds (page := page) (tells := tells) (i := 3) (by omega) b2.1 b2.2.1 b2.2.2
  refine s_cons (s_for1 (e_range (e_int (e_int (e_int ⟨0, 4, 1, rfl, rfl, rfl, by decide, _, rfl, ?_⟩)))))
  show forL (bind1 7) _ [.int 0, .int 1, .int 2, .int 3] _ _
  refine f_cons1 (vc_bld1 page tells ⟨[], [], []⟩ 0 e b s _ (by omega) (by omega) (by omega) (by omega) (by simp) (by simp) (by simp) (l_next ?_))
  refine f_cons1 (vc_bld1 page tells _ 1 e b s _ (by omega) (by omega) (by omega) (by omega) b0.1 (by omega) (by omega) (l_next ?_))
  refine f_cons1 (vc_bld1 page tells _ 2 e b s _ (by omega) (by omega) (by omega) (by omega) b1.1 (by omega) (by omega) (l_next ?_))
  refine f_cons1 (vc_bld1 page tells _ 3 e b s _ (by omega) (by omega) (by omega) (by omega) b2.1 (by omega) (by omega) (l_next ?_))
  refine f_nil ?_
  refine s_cons (s_whil _ (vc_popE page tells _ _ e b s (by omega) _ _ _ b3.1 (by omega) ?_))
  exact h _
end Mine

-- part 69
namespace Mine
variable {Sp : Nat → List V → V → Prop}
theorem pick_range {α : Type} {l : List α} (a n : Nat) (h : a + n ≤ l.length) : ((List.range n).map fun k => a + k).filterMap (l[·]?) = (l.drop a).take n := by
  induction n generalizing a with
  | zero => simp
  | succ n ih =>
    rw [List.range_succ_eq_map, List.map_cons, List.map_map]
    have ha : a < l.length := by omega
    rw [List.filterMap_cons, Nat.add_zero, List.getElem?_eq_getElem ha]
    have : (fun k => a + k) ∘ Nat.succ = fun k => (a + 1) + k := by funext k; simp only [Function.comp]; omega
    rw [this, ih (a + 1) (by omega), List.drop_eq_getElem_cons ha, List.take_succ_cons]
theorem srange (a b : Nat) (h : a ≤ b) : sliceRange (a : Int) (b : Int) 1 = (List.range (b - a)).map fun k => a + k := by
  unfold sliceRange
  simp only [show (1 : Int) > 0 by decide, if_true]
  have e3 : (if (a : Int) < (b : Int) then ((b : Int) - a + 1 - 1) / 1 else 0).toNat = b - a := by
    rw [Int.ediv_one]
    split <;> omega
  rw [e3]
  refine List.map_congr_left fun k _ => ?_
  omega
theorem pick_ab {α : Type} (l : List α) (a b : Nat) (h1 : a ≤ b) (h2 : b ≤ l.length) : pickL l (some (a : Int)) (some (b : Int)) none = (l.drop a).take (b - a) := by
  have hb : sliceBounds (some (a : Int)) (some (b : Int)) none l.length = ((a : Int), (b : Int), 1) := by
    unfold sliceBounds
    have n1 : ¬ ((a : Int) < 0) := by omega
    have n2 : ¬ ((b : Int) < 0) := by omega
    have e1 : max 0 (min (a : Int) (l.length : Int)) = a := by omega
    have e2 : max 0 (min (b : Int) (l.length : Int)) = b := by omega
    simp only [Option.getD_none, show (1 : Int) > 0 by decide, if_true, n1, n2, if_false, e1, e2]
  unfold pickL
  rw [hb]
  show (sliceRange (a : Int) (b : Int) 1).filterMap _ = _
  rw [srange a b h1, pick_range a (b - a) (by omega)]
theorem pick_a {α : Type} (l : List α) (a : Nat) (h : a ≤ l.length) : pickL l (some (a : Int)) none none = l.drop a := by
  have hb : sliceBounds (some (a : Int)) none none l.length = ((a : Int), ((l.length : Nat) : Int), 1) := by
    unfold sliceBounds
    have n1 : ¬ ((a : Int) < 0) := by omega
    have e1 : max 0 (min (a : Int) (l.length : Int)) = a := by omega
    simp only [Option.getD_none, show (1 : Int) > 0 by decide, if_true, n1, if_false, e1]
  unfold pickL
  rw [hb]
  show (sliceRange (a : Int) ((l.length : Nat) : Int) 1).filterMap _ = _
  rw [srange a l.length h, pick_range a (l.length - a) (by omega), List.take_of_length_le (by simp)]
theorem pick_b {α : Type} (l : List α) (b : Nat) (h : b ≤ l.length) : pickL l none (some (b : Int)) none = l.take b := by
  have hb : sliceBounds none (some (b : Int)) none l.length = (((0 : Nat) : Int), (b : Int), 1) := by
    unfold sliceBounds
    have n2 : ¬ ((b : Int) < 0) := by omega
    have e2 : max 0 (min (b : Int) (l.length : Int)) = b := by omega
    simp only [Option.getD_none, show (1 : Int) > 0 by decide, if_true, n2, if_false, e2]
    rfl
  unfold pickL
  rw [hb]
  show (sliceRange ((0 : Nat) : Int) (b : Int) 1).filterMap _ = _
  rw [srange 0 b (Nat.zero_le _), Nat.sub_zero, pick_range 0 b (by omega), List.drop_zero]
noncomputable def idx2 (a : Nat) : List Nat := (List.range ((9 - a + 1) / 2)).map fun k => a + 2 * k
theorem rangeV_two (a : Nat) (h : a ≤ 9) : rangeV (a : Int) 9 2 = natsV (idx2 a) := by
  unfold rangeV rangeV.sliceRangeI natsV idx2
  have : (Builtin.Range.rangeSize (a : Int) 9 2).toNat = (9 - a + 1) / 2 := by
    unfold Builtin.Range.rangeSize
    rw [if_pos (by decide)]
    split <;> omega
  rw [this, List.map_map, List.map_map]
  refine List.map_congr_left fun k _ => ?_
  simp only [Function.comp]
  congr 1
  omega
noncomputable abbrev mail2ρ (page tells : List Nat) (q : Bl) (ends : List Nat) (i b s : Slot) : List Slot :=
  [.fro (.list (natsV page)), .fro (.list (natsV tells)), .fro (.list (openS.map .str)), .fro (.list (closeS.map .str)), .own ((q.pcs.map (·.2)).map .str), .own (natsV q.plc), .own (natsV q.stk.reverse), i, .own (natsV ends), b, s]
noncomputable abbrev seekB : List CS := [.assign 10 (.call 2 [(.join (.str (Str.ofString "")) (.slcv 4 (some (.subv 5 (.var 7))) (some (.var 9)) .none))]), .ite (.cmp .Is (.var 10) (.bool true)) [.append 8 (.bin .Add (.var 7) (.bin .FloorDiv (.bin .Sub (.var 9) (.subv 5 (.var 7))) (.int 2))), .brk] [], .ite (.cmp .IsNot (.var 10) (.bool false)) [.ret (.lst [])] []]
noncomputable def sub2 (pcs : List (Bool × Str)) (pl b : Nat) : List (Bool × Str) := (pcs.drop pl).take (b - pl)
noncomputable def okB (pcs : List (Bool × Str)) (pl b : Nat) : Bool := balF ((sub2 pcs pl b).map (·.1)) 0
noncomputable def ChkSp (Sp : Nat → List V → V → Prop) : Prop := ∀ ps : List (Bool × Str), (∀ p ∈ ps, PieceOk p) → ps.length ≤ 8 → Sp 2 [.str (Txt.join (Str.ofString "") (ps.map (·.2)))] (.bool (balF (ps.map (·.1)) 0))
theorem join_bound {ps : List (Bool × Str)} (h : ∀ p ∈ ps, PieceOk p) (hl : ps.length ≤ 8) : ((ps.map (·.2)).map (·.length)).sum + (ps.map (·.2)).length * (Str.ofString "").length ≤ 1048576 := by
  have e0 : (Str.ofString "").length = 0 := by decide
  rw [e0]
  have := sum_le (ps.map (·.2)) fun x hx => by
    obtain ⟨p, hp, rfl⟩ := List.mem_map.mp hx
    have := piece_len (h p hp)
    omega
  simp only [List.length_map] at this ⊢
  omega
theorem vc_seek (hS : ChkSp Sp) (page tells : List Nat) (q : Bl) (i : Nat) (hi : i < q.plc.length) (hpl : q.plc.length ≤ 50) (hok : ∀ p ∈ q.pcs, PieceOk p) (h8 : q.pcs.length = 8) (R : Out → Prop) : ∀ (bs : List Nat) (ends : List Nat) (b s : Slot), ends.length ≤ 50 → (∀ x ∈ bs, q.plc.getD i 0 ≤ x ∧ x ≤ 8) →
    (∀ b' s', R (.next (mail2ρ page tells q (match bs.find? (okB q.pcs (q.plc.getD i 0)) with | some x => ends ++ [i + (x - q.plc.getD i 0) / 2] | none => ends) (.fro (.int i)) b' s'))) →
    forL (bind1 9) (fun ρ k => wpSs Sp seekB ρ k) (natsV bs) (mail2ρ page tells q ends (.fro (.int i)) b s) R
  | [], ends, b, s, _, _, h => by
    refine f_nil ?_
    exact h b s
  | x :: bs, ends, b, s, he, hb, h => by
    obtain ⟨hb1, hb2⟩ := hb x (List.mem_cons_self ..)
    show forL _ _ (.int (x : Nat) :: natsV bs) _ _
    refine f_cons1 ?_
    unfold seekB
    refine s_cons (s_assign (e_call (es_cons (e_join (e_str ⟨_, rfl, e_slcv rfl (by simp [slotV]) (o_some (e_subv rfl (by simp [slotV]) (e_fro rfl (x_get rfl (nats_get hi (by omega)) (o_some (e_fro rfl (o_none ?_)))))))⟩)))))
    have hsl : sliceV (.list ((q.pcs.map (·.2)).map .str)) (some ((q.plc.getD i 0 : Nat) : Int)) (some (x : Int)) none = some (.list (((sub2 q.pcs (q.plc.getD i 0) x).map (·.2)).map .str)) := by
      show (if (none : Option Int) ≠ some 0 ∧ ((q.pcs.map (·.2)).map V.str).length ≤ 1048576 then some (V.list (pickL ((q.pcs.map (·.2)).map V.str) _ _ none)) else none) = _
      rw [if_pos ⟨by simp, by simp; omega⟩, pick_ab _ _ _ hb1 (by simp; omega)]
      simp [sub2, List.map_drop, List.map_take]
    refine ⟨_, _, _, _, _, rfl, rfl, rfl, rfl, hsl, ?_⟩
    have hsok : ∀ p ∈ sub2 q.pcs (q.plc.getD i 0) x, PieceOk p := fun p hp => hok p (List.mem_of_mem_drop (List.mem_of_mem_take hp))
    have hsl8 : (sub2 q.pcs (q.plc.getD i 0) x).length ≤ 8 := by
      unfold sub2
      rw [List.length_take, List.length_drop]
      omega
    refine ⟨_, _, rfl, strsV_map _, join_bound hsok hsl8, es_nil ⟨_, hS _ hsok hsl8, ?_⟩⟩
    refine s_cons (s_ite (e_cmp (e_fro rfl (e_bool (c_isB ?_)))))
    have hfind : (x :: bs).find? (okB q.pcs (q.plc.getD i 0)) = if okB q.pcs (q.plc.getD i 0) x then some x else bs.find? (okB q.pcs (q.plc.getD i 0)) := by
      rw [List.find?_cons]
      cases okB q.pcs (q.plc.getD i 0) x <;> rfl
    rw [hfind] at h
    unfold okB at h
    cases hbal : balF ((sub2 q.pcs (q.plc.getD i 0) x).map (·.1)) 0 with
    | true =>
      rw [hbal] at h
      simp only [if_true] at h
      refine i_true rfl ?_
      refine s_cons (s_append rfl (e_bin (e_fro rfl (e_bin (e_bin (e_fro rfl (e_subv rfl (by simp [slotV]) (e_fro rfl (x_get rfl (nats_get hi (by omega)) (b_sub ?_))))))))))
      refine e_int (b_div (by decide) (b_add ?_))
      refine And.intro (by simp [natsV]; omega) ?_
      refine s_cons (s_brk (l_brk ?_))
      have e1 : (i : Int) + ((x : Int) - ((q.plc.getD i 0 : Nat) : Int)).fdiv 2 = ((i + (x - q.plc.getD i 0) / 2 : Nat) : Int) := by
        have : ((x : Int) - ((q.plc.getD i 0 : Nat) : Int)) = ((x - q.plc.getD i 0 : Nat) : Int) := by omega
        rw [this, show (2 : Int) = ((2 : Nat) : Int) from rfl, fdiv_nat]
        omega
      have e2 : natsV ends ++ [V.int (i + (x - q.plc.getD i 0) / 2 : Nat)] = natsV (ends ++ [i + (x - q.plc.getD i 0) / 2]) := by simp [natsV]
      have h := h (.fro (.int x)) (.fro (.bool true))
      unfold mail2ρ at h
      rw [← e2, ← e1] at h
      exact h
    | false =>
      rw [hbal] at h
      simp only [Bool.false_eq_true, if_false] at h
      refine i_false rfl ?_
      refine s_nil (s_cons (s_ite (e_cmp (e_fro rfl (e_bool (c_isnB (i_false rfl (s_nil (s_nil (l_next ?_)))))))))
      )
      exact vc_seek hS page tells q i hi hpl hok h8 R bs ends _ _ he (fun y hy => hb y (List.mem_cons_of_mem _ hy)) h
end Mine

-- part 70
namespace Mine
variable {Sp : Nat → List V → V → Prop}
noncomputable def endsStep (q : Bl) (ends : List Nat) (i : Nat) : List Nat := match (idx2 (q.plc.getD i 0 + 2)).find? (okB q.pcs (q.plc.getD i 0)) with
  | some x => ends ++ [i + (x - q.plc.getD i 0) / 2]
  | none => ends
theorem endsStep_len (q : Bl) (ends : List Nat) (i : Nat) : (endsStep q ends i).length ≤ ends.length + 1 := by
  unfold endsStep
  split <;> simp
noncomputable def mailE (q : Bl) : List Nat := [0, 1, 2, 3].foldl (endsStep q) []
noncomputable def turned (q : Bl) : List (Bool × Str) := q.pcs.drop (q.plc.getD 3 0) ++ q.pcs.take (q.plc.getD 3 0)
theorem idx2_mem {a x : Nat} (h : x ∈ idx2 a) (ha : a ≤ 9) : a ≤ x ∧ x ≤ 8 := by
  unfold idx2 at h
  obtain ⟨k, hk, rfl⟩ := List.mem_map.mp h
  have := List.mem_range.mp hk
  omega
theorem vc_outer (hS : ChkSp Sp) (page tells : List Nat) (q : Bl) (hpl : q.plc.length = 4) (hp7 : ∀ i, i < 4 → q.plc.getD i 0 ≤ 7) (hok : ∀ p ∈ q.pcs, PieceOk p) (h8 : q.pcs.length = 8) (R : Out → Prop) : ∀ (is ends : List Nat) (i b s : Slot), (∀ x ∈ is, x < 4) → ends.length + is.length ≤ 10 →
    (∀ i' b' s', R (.next (mail2ρ page tells q (is.foldl (endsStep q) ends) i' b' s'))) →
    forL (bind1 7) (fun ρ k => wpSs Sp [.for1 9 (.range (.bin .Add (.subv 5 (.var 7)) (.int 2)) (.int 9) (.int 2)) seekB] ρ k) (natsV is) (mail2ρ page tells q ends i b s) R
  | [], ends, i, b, s, _, _, h => f_nil (h i b s)
  | x :: is, ends, i, b, s, hi, hl, h => by
    have hx := hi x (List.mem_cons_self ..)
    have h7 := hp7 x hx
    have hit : iterV (.list (rangeV (((q.plc.getD x 0 : Nat) : Int) + 2) 9 2)) = some (natsV (idx2 (q.plc.getD x 0 + 2))) := by
      rw [show ((q.plc.getD x 0 : Nat) : Int) + 2 = ((q.plc.getD x 0 + 2 : Nat) : Int) by omega, rangeV_two _ (by omega)]
      exact iterV_list (by simp [natsV, idx2]; omega)
    show forL _ _ (.int (x : Nat) :: natsV is) _ _
    refine f_cons1 ?_
    refine s_cons (s_for1 (e_range (e_bin (e_subv rfl (by simp [slotV]) (e_fro rfl (x_get rfl (nats_get (by omega) (by omega)) (e_int (b_add (e_int (e_int ⟨_, 9, 2, rfl, rfl, rfl, by omega, _, hit, ?_⟩))))))))))
    refine vc_seek hS page tells q x (by omega) (by omega) hok h8 _ _ ends _ _ (by simp at hl; omega) (fun y hy => ?_) (fun b' s' => ?_)
    · have := idx2_mem hy (by omega); omega
    · refine s_nil (l_next ?_)
      have hl' := endsStep_len q ends x
      have ih := vc_outer hS page tells q hpl hp7 hok h8 R is (endsStep q ends x) (.fro (.int x)) b' s' (fun y hy => hi y (List.mem_cons_of_mem _ hy)) (by simp only [List.length_cons] at hl; omega) h
      unfold endsStep at ih
      exact ih
theorem vc_mail2 (hS : ChkSp Sp) (page tells : List Nat) (q : Bl) (h4 : page.length = 4) (hpl : q.plc.length = 4) (hp7 : ∀ i, i < 4 → q.plc.getD i 0 ≤ 7) (hok : ∀ p ∈ q.pcs, PieceOk p) (h8 : q.pcs.length = 8)
    (ht : balF ((turned q).map (·.1)) 0 = (page.getD 3 0 == 0)) (i b s : Slot) :
    wpSs Sp [.for1 7 (.range (.int 0) (.int 4) (.int 1)) [.for1 9 (.range (.bin .Add (.subv 5 (.var 7)) (.int 2)) (.int 9) (.int 2)) seekB],
      .ite (.cmp .IsNot (.call 2 [(.join (.str (Str.ofString "")) (.bin .Add (.slcv 4 (some (.subv 5 (.int 3))) .none .none) (.slcv 4 .none (some (.subv 5 (.int 3))) .none)))]) (.cmp .Eq (.subv 0 (.int 3)) (.int 0))) [.ret (.lst [])] [],
      .ret (.var 8)] (mail2ρ page tells q [] i b s) (fun o => o = .ret (.list (natsV (mailE q)))) := by
  refine s_cons (s_for1 (e_range (e_int (e_int (e_int ⟨0, 4, 1, rfl, rfl, rfl, by decide, _, rfl, ?_⟩)))))
  refine vc_outer hS page tells q hpl hp7 hok h8 _ [0, 1, 2, 3] [] i b s (by decide) (by simp) (fun i' b' s' => ?_)
  have h3 := hp7 3 (by omega)
  refine s_cons (s_ite (e_cmp (e_call (es_cons (e_join (e_str ⟨_, rfl, e_bin (e_slcv rfl (by simp [slotV]) (o_some (e_subv rfl (by simp [slotV]) (e_int (x_get rfl (nats_get (l := q.plc) (i := 3) (by omega) (by omega)) (o_none ?_))))))⟩))))))
  have hsl1 : sliceV (.list ((q.pcs.map (·.2)).map .str)) (some ((q.plc.getD 3 0 : Nat) : Int)) none none = some (.list (((q.pcs.drop (q.plc.getD 3 0)).map (·.2)).map .str)) := by
    show (if (none : Option Int) ≠ some 0 ∧ ((q.pcs.map (·.2)).map V.str).length ≤ 1048576 then some (V.list (pickL ((q.pcs.map (·.2)).map V.str) _ _ none)) else none) = _
    rw [if_pos ⟨by simp, by simp; omega⟩, pick_a _ _ (by simp only [List.length_map]; omega)]
    simp [List.map_drop]
  have hsl2 : sliceV (.list ((q.pcs.map (·.2)).map .str)) none (some ((q.plc.getD 3 0 : Nat) : Int)) none = some (.list (((q.pcs.take (q.plc.getD 3 0)).map (·.2)).map .str)) := by
    show (if (none : Option Int) ≠ some 0 ∧ ((q.pcs.map (·.2)).map V.str).length ≤ 1048576 then some (V.list (pickL ((q.pcs.map (·.2)).map V.str) _ _ none)) else none) = _
    rw [if_pos ⟨by simp, by simp; omega⟩, pick_b _ _ (by simp only [List.length_map]; omega)]
    simp [List.map_take]
  refine ⟨_, _, _, _, _, rfl, rfl, rfl, rfl, hsl1, ?_⟩
  refine e_slcv rfl (by simp [slotV]) (o_none (o_some (e_subv rfl (by simp [slotV]) (e_int (x_get rfl (nats_get (l := q.plc) (i := 3) (by omega) (by omega)) ?_)))))
  refine ⟨_, _, _, _, _, rfl, rfl, rfl, rfl, hsl2, ?_⟩
  have hadd : binV .Add (.list (((q.pcs.drop (q.plc.getD 3 0)).map (·.2)).map .str)) (.list (((q.pcs.take (q.plc.getD 3 0)).map (·.2)).map .str)) = some (.list (((turned q).map (·.2)).map .str)) := by
    show (if _ then _ else _) = _
    rw [if_pos (by simp only [List.length_map, List.length_drop, List.length_take]; omega)]
    simp [turned]
  refine ⟨_, hadd, ?_⟩
  have hsok : ∀ p ∈ turned q, PieceOk p := fun p hp => by
    rcases List.mem_append.mp hp with h | h
    · exact hok p (List.mem_of_mem_drop h)
    · exact hok p (List.mem_of_mem_take h)
  have hsl8 : (turned q).length ≤ 8 := by
    unfold turned
    rw [List.length_append, List.length_take, List.length_drop]
    omega
  refine ⟨_, _, rfl, strsV_map _, join_bound hsok hsl8, es_nil ⟨_, hS _ hsok hsl8, ?_⟩⟩
  refine e_cmp (e_subv rfl (by simp [slotV]) (e_int (x_get rfl (nats_get (l := page) (i := 3) (by omega) (by omega)) (e_int (c_eq (c_isnB ?_))))))
  rw [ht]
  refine i_false ?_ (s_nil (s_cons (s_ret ?_)))
  · cases page.getD 3 0 <;> simp <;> omega
  · exact e_own rfl rfl
end Mine

-- part 71
namespace Mine
variable {Sp : Nat → List V → V → Prop}
noncomputable def pagesN : List (List Nat) := [[0, 0, 0, 0], [0, 0, 0, 1], [0, 0, 1, 0], [0, 0, 1, 1], [0, 0, 1, 2], [0, 1, 0, 0], [0, 1, 0, 1], [0, 1, 1, 0], [0, 1, 1, 1], [0, 1, 1, 2], [0, 1, 2, 0], [0, 1, 2, 1], [0, 1, 2, 2], [0, 1, 2, 3]]
theorem pages_of {f : List Nat → Bool} (h0 : f [0, 0, 0, 0] = true) (h1 : f [0, 0, 0, 1] = true) (h2 : f [0, 0, 1, 0] = true) (h3 : f [0, 0, 1, 1] = true) (h4 : f [0, 0, 1, 2] = true) (h5 : f [0, 1, 0, 0] = true) (h6 : f [0, 1, 0, 1] = true) (h7 : f [0, 1, 1, 0] = true) (h8 : f [0, 1, 1, 1] = true) (h9 : f [0, 1, 1, 2] = true) (h10 : f [0, 1, 2, 0] = true) (h11 : f [0, 1, 2, 1] = true) (h12 : f [0, 1, 2, 2] = true) (h13 : f [0, 1, 2, 3] = true) : pagesN.all f = true := by
  simp only [pagesN, List.all_cons, List.all_nil, h0, h1, h2, h3, h4, h5, h6, h7, h8, h9, h10, h11, h12, h13, Bool.and_self]
theorem opM_ok (tells : List Nat) (i : Nat) : PieceOk (true, opM tells i) := by
  have h : ∀ k, k < 4 → PieceOk (true, openS.getD k ⟨#[]⟩) := by
    intro k hk
    unfold PieceOk
    match k, hk with
    | 0, _ => decide
    | 1, _ => decide
    | 2, _ => decide
    | 3, _ => decide
  exact h _ (Nat.mod_lt _ (by decide))
theorem clM_ok (tells : List Nat) (i : Nat) : PieceOk (false, clM tells i) := by
  have h : ∀ k, k < 4 → PieceOk (false, closeS.getD k ⟨#[]⟩) := by
    intro k hk
    unfold PieceOk
    match k, hk with
    | 0, _ => decide
    | 1, _ => decide
    | 2, _ => decide
    | 3, _ => decide
  exact h _ (Nat.mod_lt _ (by decide))
theorem popTo_ok (tells : List Nat) (k : Nat) : ∀ (stk : List Nat) (pcs : List (Bool × Str)), (∀ p ∈ pcs, PieceOk p) → ∀ p ∈ (popTo (clM tells) k stk pcs).2, PieceOk p
  | [], pcs, h => by unfold popTo; exact h
  | y :: stk, pcs, h => by
    unfold popTo
    split
    · refine popTo_ok tells k stk _ fun p hp => ?_
      rcases List.mem_append.mp hp with hp | hp
      · exact h p hp
      · rw [List.mem_singleton.mp hp]; exact clM_ok tells y
    · exact h
theorem step_ok (page tells : List Nat) (i : Nat) (q : Bl) (h : ∀ p ∈ q.pcs, PieceOk p) : ∀ p ∈ (stepM page tells i q).pcs, PieceOk p := by
  intro p hp
  rcases List.mem_append.mp hp with hp | hp
  · exact popTo_ok _ _ _ _ h p hp
  · rw [List.mem_singleton.mp hp]; exact opM_ok tells i
theorem bld_ok (page tells : List Nat) : ∀ p ∈ (bldM page tells).pcs, PieceOk p :=
  popTo_ok _ _ _ _ (step_ok _ _ _ _ (step_ok _ _ _ _ (step_ok _ _ _ _ (step_ok _ _ _ _ (by simp)))))
noncomputable def endsN (p : List Nat) : List Nat := (List.range 4).map fun i => i + 1 + ((p.drop (i + 1)).takeWhile fun x => decide (p.getD i 0 < x)).length
noncomputable def okG (sg : List Bool) (pl b : Nat) : Bool := balF ((sg.drop pl).take (b - pl)) 0
theorem okB_G (pcs : List (Bool × Str)) (pl b : Nat) : okB pcs pl b = okG (pcs.map (·.1)) pl b := by
  unfold okB okG sub2
  rw [List.map_take, List.map_drop]
noncomputable def stepG (sg : List Bool) (plc ends : List Nat) (i : Nat) : List Nat := match (idx2 (plc.getD i 0 + 2)).find? (okG sg (plc.getD i 0)) with
  | some x => ends ++ [i + (x - plc.getD i 0) / 2]
  | none => ends
theorem step_G (q : Bl) : endsStep q = stepG (q.pcs.map (·.1)) q.plc := by
  funext ends i
  unfold endsStep stepG
  have : okB q.pcs (q.plc.getD i 0) = okG (q.pcs.map (·.1)) (q.plc.getD i 0) := by funext b; exact okB_G _ _ _
  rw [this]
  all_goals (generalize List.find? _ _ = o; cases o <;> rfl)
theorem turned_G (q : Bl) : (turned q).map (·.1) = (q.pcs.map (·.1)).drop (q.plc.getD 3 0) ++ (q.pcs.map (·.1)).take (q.plc.getD 3 0) := by
  unfold turned
  rw [List.map_append, List.map_drop, List.map_take]
noncomputable def sgN (p : List Nat) : List Bool := (bldM p []).pcs.map (·.1)
noncomputable def plN (p : List Nat) : List Nat := (bldM p []).plc
theorem popTo_G (tells : List Nat) (k : Nat) : ∀ (stk : List Nat) (pcs pcs' : List (Bool × Str)), pcs.map (·.1) = pcs'.map (·.1) → (popTo (clM tells) k stk pcs).1 = (popTo (clM []) k stk pcs').1 ∧ (popTo (clM tells) k stk pcs).2.map (·.1) = (popTo (clM []) k stk pcs').2.map (·.1)
  | [], pcs, pcs', h => by unfold popTo; exact ⟨rfl, h⟩
  | y :: stk, pcs, pcs', h => by
    unfold popTo
    split
    · refine popTo_G tells k stk _ _ ?_
      rw [List.map_append, List.map_append, h]; rfl
    · exact ⟨rfl, h⟩
theorem stepM_G (page tells : List Nat) (i : Nat) (q q' : Bl) (h1 : q.stk = q'.stk) (h2 : q.pcs.map (·.1) = q'.pcs.map (·.1)) (h3 : q.plc = q'.plc) :
    (stepM page tells i q).stk = (stepM page [] i q').stk ∧ (stepM page tells i q).pcs.map (·.1) = (stepM page [] i q').pcs.map (·.1) ∧ (stepM page tells i q).plc = (stepM page [] i q').plc := by
  have h := popTo_G tells (page.getD i 0) q.stk q.pcs q'.pcs h2
  rw [h1] at h
  unfold stepM
  rw [h1]
  refine ⟨by rw [h.1], by rw [List.map_append, List.map_append, h.2]; rfl, ?_⟩
  have hl := congrArg List.length h.2
  simp only [List.length_map] at hl
  rw [h3, hl]
theorem bld_G (page tells : List Nat) : (bldM page tells).pcs.map (·.1) = sgN page ∧ (bldM page tells).plc = plN page := by
  have s0 := stepM_G page tells 0 ⟨[], [], []⟩ ⟨[], [], []⟩ rfl rfl rfl
  have s1 := stepM_G page tells 1 _ _ s0.1 s0.2.1 s0.2.2
  have s2 := stepM_G page tells 2 _ _ s1.1 s1.2.1 s1.2.2
  have s3 := stepM_G page tells 3 _ _ s2.1 s2.2.1 s2.2.2
  have h := popTo_G tells 0 (stepM page tells 3 (stepM page tells 2 (stepM page tells 1 (stepM page tells 0 ⟨[], [], []⟩)))).stk _ _ s3.2.1
  have e := s3.1
  refine ⟨?_, s3.2.2⟩
  have h2 := h.2
  rw [e] at h2
  unfold sgN bldM
  simp only
  rw [e]
  exact h2
theorem pages_all : (pagesN.all fun p => (sgN p).length == 8 && (plN p).length == 4 && ((List.range 4).all fun i => decide ((plN p).getD i 0 ≤ 7)) && (balF ((sgN p).drop ((plN p).getD 3 0) ++ (sgN p).take ((plN p).getD 3 0)) 0 == (p.getD 3 0 == 0)) && (([0, 1, 2, 3].foldl (stepG (sgN p) (plN p)) []) == endsN p) && (p.length == 4)) = true := by decide +kernel
theorem mail_page (p tells : List Nat) (hp : p ∈ pagesN) : (bldM p tells).pcs.length = 8 ∧ (bldM p tells).plc.length = 4 ∧ (∀ i, i < 4 → (bldM p tells).plc.getD i 0 ≤ 7) ∧ balF ((turned (bldM p tells)).map (·.1)) 0 = (p.getD 3 0 == 0) ∧ mailE (bldM p tells) = endsN p ∧ p.length = 4 := by
  have h := List.all_eq_true.mp pages_all p hp
  simp only [Bool.and_eq_true, beq_iff_eq] at h
  obtain ⟨⟨⟨⟨⟨h1, h2⟩, h3⟩, h4⟩, h5⟩, h6⟩ := h
  obtain ⟨e1, e2⟩ := bld_G p tells
  refine ⟨?_, ?_, ?_, ?_, ?_, h6⟩
  · rw [← e1, List.length_map] at h1; exact h1
  · rw [e2]; exact h2
  · intro i hi
    rw [e2]
    exact of_decide_eq_true (List.all_eq_true.mp h3 i (List.mem_range.mpr hi))
  · rw [turned_G, e1, e2]; exact h4
  · unfold mailE
    rw [step_G, e1, e2]; exact h5
theorem vc_mail (hS : ChkSp Sp) (p tells : List Nat) (hp : p ∈ pagesN) (h4 : tells.length = 4) :
    wpSs Sp co_law_mail [.fro (.list (natsV p)), .fro (.list (natsV tells)), .undef, .undef, .undef, .undef, .undef, .undef, .undef, .undef, .undef] (fun o => o = .ret (.list (natsV (endsN p)))) := by
  obtain ⟨h8, hpl, hp7, ht, he, hp4⟩ := mail_page p tells hp
  unfold co_law_mail
  refine s_cons (s_assign (e_lst (es_cons (e_str (es_cons (e_str (es_cons (e_str (es_cons (e_str (es_nil ?_))))))))))
  )
  refine s_cons (s_assign (e_lst (es_cons (e_str (es_cons (e_str (es_cons (e_str (es_cons (e_str (es_nil ?_))))))))))
  )
  refine s_cons (s_ownList (es_nil (s_cons (s_ownList (es_nil (s_cons (s_ownList (es_nil ?_))))))))
  refine vc_mail1 p tells hp4 h4 .undef .undef .undef .undef _ _ fun i' => ?_
  refine s_cons (s_ownList (es_nil ?_))
  rw [← he]
  exact vc_mail2 hS p tells (bldM p tells) hp4 hpl hp7 (bld_ok p tells) h8 ht i' .undef .undef
end Mine

-- part 72
namespace Mine
variable {Sp : Nat → List V → V → Prop}
theorem pick_map {α β : Type} (f : α → β) (l : List α) (lo hi st : Option Int) : pickL (l.map f) lo hi st = (pickL l lo hi st).map f := by
  unfold pickL
  rw [List.length_map, List.map_filterMap]
  congr 1
  funext k
  simp
noncomputable def unitS : List Str := [Str.ofString "  \t\t", Str.ofString " \t \t", Str.ofString "\t   ", Str.ofString "    "]
noncomputable def unitF (i b : Nat) : Str := unitS.getD i ⟨#[]⟩ ++ Txt.mul (Str.ofString " ") (b : Nat)
noncomputable def leadF (H : List Int) (leads : List Str) (i b : Nat) : Str := if 0 ≤ H.getD i 0 then leads.getD (H.getD i 0).toNat ⟨#[]⟩ ++ unitF i b else unitF i b
noncomputable def runsT (l : Str) (sw : Bool) : List Str := if sw then pickL (pickL (Txt.split l (Str.ofString "\t")) none (some (-1)) none) none none (some (-1)) ++ pickL (Txt.split l (Str.ofString "\t")) (some (-1)) none none else Txt.split l (Str.ofString "\t")
noncomputable def lineT (l : Str) (sw : Bool) : Str := Txt.join (Str.ofString "\t") (runsT l sw) ++ Str.ofString "x\t "
noncomputable def leadGood (l : Str) : Bool := decide (l.length ≤ 100) && decide ((Txt.split l (Str.ofString "\t")).length ≤ 100) && decide ((pickL (Txt.split l (Str.ofString "\t")) none (some (-1)) none).length ≤ 100) && [false, true].all fun sw => decide ((pickL (pickL (Txt.split l (Str.ofString "\t")) none (some (-1)) none) none none (some (-1))).length ≤ 100 ∧ (pickL (Txt.split l (Str.ofString "\t")) (some (-1)) none none).length ≤ 100 ∧ (runsT l sw).length ≤ 100 ∧ ((runsT l sw).map (·.length)).sum ≤ 1000 ∧ (Txt.join (Str.ofString "\t") (runsT l sw)).length ≤ 1000)
noncomputable def blF (tells : List Nat) (i : Nat) : Nat := tells.getD i 0 / 18 % 3
noncomputable def swF (tells : List Nat) (i : Nat) : Bool := tells.getD i 0 / 36 % 2 == 1
noncomputable abbrev linesρ (page tells : List Nat) (H : List Int) (leads lines : List Str) (i l r : Slot) : List Slot := [.fro (.list (natsV page)), .fro (.list (natsV tells)), .fro (.list (unitS.map .str)), .fro (.list (intsV H)), .own (leads.map .str), .own (lines.map .str), i, l, r]
noncomputable abbrev linesB2 : List CS := [.append 4 (.var 7), .assign 8 (.split (.var 7) (.str (Str.ofString "\t"))), .ite (.cmp .Eq (.bin .Mod (.bin .FloorDiv (.subv 1 (.var 6)) (.int 36)) (.int 2)) (.int 1)) [.assign 8 (.bin .Add (.slc (.slcv 8 .none (some (.neg (.int 1))) .none) .none .none (some (.neg (.int 1)))) (.slcv 8 (some (.neg (.int 1))) .none .none))] [], .append 5 (.bin .Add (.join (.str (Str.ofString "\t")) (.var 8)) (.str (Str.ofString "x\t ")))]
noncomputable abbrev linesB : List CS := .assign 7 (.bin .Add (.subv 2 (.var 6)) (.bin .Mult (.str (Str.ofString " ")) (.bin .Mod (.bin .FloorDiv (.subv 1 (.var 6)) (.int 18)) (.int 3)))) :: .ite (.cmp .GtE (.subv 3 (.var 6)) (.int 0)) [.assign 7 (.bin .Add (.subv 4 (.subv 3 (.var 6))) (.var 7))] [] :: linesB2
theorem slice_strs {l : List Str} (h : l.length ≤ 1000) (lo hi st : Option Int) (hs : st ≠ some 0) : sliceV (.list (l.map .str)) lo hi st = some (.list ((pickL l lo hi st).map .str)) := by
  show (if st ≠ some 0 ∧ (l.map V.str).length ≤ 1048576 then some (V.list (pickL (l.map V.str) lo hi st)) else none) = _
  rw [if_pos ⟨hs, by simp only [List.length_map]; omega⟩, pick_map]
theorem vc_lrest (page tells : List Nat) (H : List Int) (leads lines : List Str) (i : Nat) (l : Str) (r : Slot) (hi : i < 4) (ht : tells.length = 4) (h1 : leads.length ≤ 10) (h2 : lines.length ≤ 10) (hg : leadGood l = true) (R : Out → Prop)
    (h : ∀ r', R (.next (linesρ page tells H (leads ++ [l]) (lines ++ [lineT l (swF tells i)]) (.fro (.int i)) (.fro (.str l)) r'))) : wpSs Sp linesB2 (linesρ page tells H leads lines (.fro (.int i)) (.fro (.str l)) r) R := by
  unfold leadGood at hg
  simp only [Bool.and_eq_true, decide_eq_true_eq] at hg
  obtain ⟨⟨⟨g1, g2⟩, g3⟩, g4⟩ := hg
  have g4 : ∀ sw, (pickL (pickL (Txt.split l (Str.ofString "\t")) none (some (-1)) none) none none (some (-1))).length ≤ 100 ∧ (pickL (Txt.split l (Str.ofString "\t")) (some (-1)) none none).length ≤ 100 ∧ (runsT l sw).length ≤ 100 ∧ ((runsT l sw).map (·.length)).sum ≤ 1000 ∧ (Txt.join (Str.ofString "\t") (runsT l sw)).length ≤ 1000 := fun sw => of_decide_eq_true (List.all_eq_true.mp g4 sw (by cases sw <;> simp))
  have e1 : leads.map V.str ++ [.str l] = (leads ++ [l]).map V.str := by simp
  have e2 : ∀ z, lines.map V.str ++ [.str z] = (lines ++ [z]).map V.str := by simp
  have hlast : wpSs Sp [.append 5 (.bin .Add (.join (.str (Str.ofString "\t")) (.var 8)) (.str (Str.ofString "x\t ")))] (linesρ page tells H (leads ++ [l]) lines (.fro (.int i)) (.fro (.str l)) (.fro (.list ((runsT l (swF tells i)).map .str)))) R := by
    obtain ⟨_, _, k1, k2, k3⟩ := g4 (swF tells i)
    refine s_cons (s_append rfl (e_bin (e_join (e_str ⟨_, rfl, e_fro rfl ⟨_, _, rfl, strsV_map _, ?_, e_str (b_addS ?_ ?_)⟩⟩))))
    · have : (Str.ofString "\t").length = 1 := by decide
      rw [this]; omega
    · have : (Str.ofString "x\t ").length = 3 := by decide
      rw [this]; omega
    · refine And.intro (by simp only [List.length_map]; omega) (s_nil ?_)
      have := h (.fro (.list ((runsT l (swF tells i)).map .str)))
      unfold linesρ at this
      rw [← e2] at this
      exact this
  refine s_cons (s_append rfl (e_fro rfl ⟨by simp only [List.length_map]; omega, ?_⟩))
  refine s_cons (s_assign (e_split (e_fro rfl ⟨_, rfl, e_str ⟨_, rfl, by decide, by omega, ?_⟩⟩)))
  refine s_cons (s_ite (e_cmp (e_bin (e_bin (e_subv rfl (by simp [slotV]) (e_fro rfl (x_get rfl (nats_get (l := tells) (by omega) (by omega)) (e_int (b_div (by decide) ?_)))))))))
  rw [show (36 : Int) = ((36 : Nat) : Int) from rfl, fdiv_nat]
  refine e_int (b_mod (by decide) ?_)
  rw [show (2 : Int) = ((2 : Nat) : Int) from rfl, fmod_nat]
  refine e_int (c_eq ?_)
  have hsw : (((tells.getD i 0 / 36 % 2 : Nat) : Int) == 1) = swF tells i := by
    unfold swF
    rw [Bool.eq_iff_iff]
    simp only [beq_iff_eq]
    omega
  rw [hsw]
  unfold linesρ at hlast
  rw [← e1] at hlast
  cases hb : swF tells i with
  | true =>
    rw [hb] at hlast
    refine i_true rfl ?_
    refine s_cons (s_assign (e_bin (e_slc (e_slcv rfl (by simp [slotV]) (o_none (o_some (e_neg (e_int ⟨_, rfl, o_none ?_⟩))))))))
    refine ⟨_, _, _, _, _, rfl, rfl, rfl, rfl, slice_strs (by omega) _ _ _ (by simp), o_none (o_none (o_some (e_neg (e_int ⟨_, rfl, ?_⟩))))⟩
    refine ⟨_, _, _, _, rfl, rfl, rfl, slice_strs (by omega) _ _ _ (by simp), ?_⟩
    refine e_slcv rfl (by simp [slotV]) (o_some (e_neg (e_int ⟨_, rfl, o_none (o_none ?_)⟩)))
    refine ⟨_, _, _, _, _, rfl, rfl, rfl, rfl, slice_strs (by omega) _ _ _ (by simp), ?_⟩
    obtain ⟨k1, k2, _⟩ := g4 true
    refine b_addL (by simp only [List.length_map]; omega) (s_nil ?_)
    rw [← List.map_append]
    exact hlast
  | false =>
    rw [hb] at hlast
    refine i_false rfl (s_nil ?_)
    exact hlast
theorem ints_get {H : List Int} {i : Nat} (h : i < H.length) (hl : H.length ≤ 1000) : idxV (.list (intsV H)) (.int i) = some (.int (H.getD i 0)) := by
  rw [intsV_get h, if_pos (by omega)]
theorem vc_lstep (page tells : List Nat) (H : List Int) (leads lines : List Str) (i : Nat) (l r : Slot) (hi : i < 4) (ht : tells.length = 4) (hH : H.length = 4) (hlt : H.getD i 0 < i) (h1 : leads.length = i) (h2 : lines.length ≤ 10) (hls : ∀ x ∈ leads, x.length ≤ 100) (hu : (unitF i (blF tells i)).length ≤ 100) (hg : leadGood (leadF H leads i (blF tells i)) = true) (R : Out → Prop)
    (h : ∀ l' r', R (.next (linesρ page tells H (leads ++ [leadF H leads i (blF tells i)]) (lines ++ [lineT (leadF H leads i (blF tells i)) (swF tells i)]) (.fro (.int i)) l' r'))) : wpSs Sp linesB (linesρ page tells H leads lines (.fro (.int i)) l r) R := by
  have hU : (unitS.getD i ⟨#[]⟩).length ≤ 4 := by
    match i, hi with
    | 0, _ => decide
    | 1, _ => decide
    | 2, _ => decide
    | 3, _ => decide
  refine s_cons (s_assign (e_bin (e_subv rfl (by simp [slotV]) (e_fro rfl (x_get rfl (strs_get (l := unitS) (by exact hi) (by decide)) (e_bin (e_str (e_bin (e_bin (e_subv rfl (by simp [slotV]) (e_fro rfl (x_get rfl (nats_get (l := tells) (by omega) (by omega)) (e_int (b_div (by decide) ?_)))))))))))))
  )
  rw [show (18 : Int) = ((18 : Nat) : Int) from rfl, fdiv_nat]
  refine e_int (b_mod (by decide) ?_)
  rw [show (3 : Int) = ((3 : Nat) : Int) from rfl, fmod_nat]
  have hb : tells.getD i 0 / 18 % 3 < 3 := Nat.mod_lt _ (by decide)
  refine b_mulS ⟨by omega, by omega, by decide⟩ (b_addS ?_ ?_)
  · have : ∀ b, b < 3 → (Txt.mul (Str.ofString " ") (b : Nat)).length ≤ 4 := by
      intro b hb
      match b, hb with
      | 0, _ => decide
      | 1, _ => decide
      | 2, _ => decide
    have := this _ hb
    omega
  · refine s_cons (s_ite (e_cmp (e_subv rfl (by simp [slotV]) (e_fro rfl (x_get rfl (ints_get (H := H) (by omega) (by omega)) (e_int (c_ge ?_)))))))
    have hfin := fun l₀ (e : l₀ = leadF H leads i (blF tells i)) => vc_lrest (Sp := Sp) page tells H leads lines i l₀ r hi ht (by omega) h2 (e ▸ hg) R (fun r' => by rw [e]; exact h _ r')
    by_cases hp : 0 ≤ H.getD i 0
    · refine i_true (decide_eq_true hp) ?_
      have hk : H.getD i 0 = ((H.getD i 0).toNat : Int) := by omega
      have hkl : (H.getD i 0).toNat < leads.length := by omega
      refine s_cons (s_assign (e_bin (e_subv rfl (by simp [slotV]) (e_subv rfl (by simp [slotV]) (e_fro rfl (x_get rfl (ints_get (H := H) (by omega) (by omega)) ?_))))))
      rw [hk]
      refine x_get rfl (strs_get hkl (by omega)) (e_fro rfl (b_addS ?_ (s_nil ?_)))
      · have : (leads.getD (H.getD i 0).toNat ⟨#[]⟩).length ≤ 100 := by
          rw [List.getD_eq_getElem?_getD, List.getElem?_eq_getElem hkl]
          exact hls _ (List.getElem_mem _)
        have hu' : (unitS.getD i ⟨#[]⟩ ++ Txt.mul (Str.ofString " ") ((tells.getD i 0 / 18 % 3 : Nat) : Int)).length ≤ 100 := hu
        omega
      · exact hfin _ (by unfold leadF; rw [if_pos hp]; rfl)
    · refine i_false (decide_eq_false hp) (s_nil ?_)
      exact hfin _ (by unfold leadF; rw [if_neg hp]; rfl)
end Mine

-- part 73
namespace Mine
noncomputable def wsX (z : Str) : Wx := ⟨(wsLoop z.cps.toList 0 0 0 []).1, (wsLoop z.cps.toList 0 0 0 []).2.1, (wsLoop z.cps.toList 0 0 0 []).2.2.1, (wsLoop z.cps.toList 0 0 0 []).2.2.2, decide ((wsLoop z.cps.toList 0 0 0 []).2.2.2.length ≤ 1)⟩
theorem wsX_v (z : Str) : wsOf z = (wsX z).v := rfl
noncomputable def Wx.same (x y : Wx) : Bool := x.n == y.n && x.nt == y.nt && x.b == y.b && x.cnt == y.cnt && x.s == y.s
theorem Wx.same_eq {x y : Wx} (h : x.same y = true) : x = y := by
  obtain ⟨n, nt, b, cnt, s⟩ := x
  obtain ⟨n', nt', b', cnt', s'⟩ := y
  unfold Wx.same at h
  simp only [Bool.and_eq_true, beq_iff_eq] at h
  obtain ⟨⟨⟨⟨rfl, rfl⟩, rfl⟩, rfl⟩, rfl⟩ := h
  rfl
noncomputable def Wx.okB (x : Wx) : Bool := decide (x.cnt.length ≤ 1001) && decide (x.b ≤ 1000)
theorem Wx.okB_ok {x : Wx} (h : x.okB = true) : x.ok := by
  obtain ⟨h1, h2⟩ := Bool.and_eq_true_iff.mp h
  exact ⟨of_decide_eq_true h1, of_decide_eq_true h2⟩
noncomputable def blks (i : Nat) (prev : List Str) : List Str := [0, 1, 2].flatMap fun b => unitF i b :: prev.map (· ++ unitF i b)
noncomputable def lead0 : List Str := blks 0 []
noncomputable def lead1 : List Str := blks 1 lead0
noncomputable def lead2 : List Str := blks 2 (lead0 ++ lead1)
noncomputable def lead3 : List Str := blks 3 (lead0 ++ lead1 ++ lead2)
noncomputable def leadAll : List Str := lead0 ++ lead1 ++ lead2 ++ lead3
noncomputable def headsI (p : List Nat) : List Int := (List.range 4).map fun i => (((List.range i).reverse.find? fun k => decide (p.getD k 0 < p.getD i 0)).map Int.ofNat).getD (-1)
noncomputable def seekD (L : Nat → Bool) : Nat → Int
  | 0 => -1
  | k + 1 => if L k then k else seekD L k
noncomputable def nannyF (xs : List Wx) : List Int := (List.range 4).map fun i => seekD (fun k => lessF (xs.getD k ⟨0, 0, 0, [], false⟩) (xs.getD i ⟨0, 0, 0, [], false⟩)) i
noncomputable def ld0 (H : List Int) (bl : Nat → Nat) : Str := leadF H [] 0 (bl 0)
noncomputable def ld1 (H : List Int) (bl : Nat → Nat) : Str := leadF H [ld0 H bl] 1 (bl 1)
noncomputable def ld2 (H : List Int) (bl : Nat → Nat) : Str := leadF H [ld0 H bl, ld1 H bl] 2 (bl 2)
noncomputable def ld3 (H : List Int) (bl : Nat → Nat) : Str := leadF H [ld0 H bl, ld1 H bl, ld2 H bl] 3 (bl 3)
noncomputable def unitL : List (List Nat) := [[32, 32, 9, 9], [32, 9, 32, 9], [9, 32, 32, 32], [32, 32, 32, 32]]
noncomputable def unitC (i b : Nat) : List Nat := unitL.getD i [] ++ List.replicate b 32
noncomputable def leadC (H : List Int) (leads : List (List Nat)) (i b : Nat) : List Nat := if 0 ≤ H.getD i 0 then leads.getD (H.getD i 0).toNat [] ++ unitC i b else unitC i b
noncomputable def leadsC (H : List Int) (bl : List Nat) : List (List Nat) :=
  let l0 := leadC H [] 0 (bl.getD 0 0)
  let l1 := leadC H [l0] 1 (bl.getD 1 0)
  let l2 := leadC H [l0, l1] 2 (bl.getD 2 0)
  [l0, l1, l2, leadC H [l0, l1, l2] 3 (bl.getD 3 0)]
noncomputable def wsN (l : List Nat) : Wx := ⟨(wsLoop l 0 0 0 []).1, (wsLoop l 0 0 0 []).2.1, (wsLoop l 0 0 0 []).2.2.1, (wsLoop l 0 0 0 []).2.2.2, decide ((wsLoop l 0 0 0 []).2.2.2.length ≤ 1)⟩
noncomputable def bls : List (List Nat) := [0, 1, 2].flatMap fun a => [0, 1, 2].flatMap fun b => [0, 1, 2].flatMap fun c => [0, 1, 2].map fun d => [a, b, c, d]
noncomputable def leadChk (l : Str) : Bool := leadGood l && (wsN l.cps.toList).okB && (wsX (lineT l true)).same (wsN l.cps.toList) && (wsX (lineT l false)).same (wsN l.cps.toList) && decide (l.length ≤ 100) && decide ((lineT l true).cps.size ≤ 1000) && decide ((lineT l false).cps.size ≤ 1000)
theorem all_cut {α : Type} {f : α → Bool} {l : List α} (n : Nat) (h1 : (l.take n).all f = true) (h2 : (l.drop n).all f = true) : l.all f = true := by
  rw [← List.take_append_drop n l, List.all_append, h1, h2]; rfl
theorem all_cut' {α : Type} {f : α → Bool} {l : List α} (k n : Nat) (h1 : ((l.drop k).take n).all f = true) (h2 : (l.drop (k + n)).all f = true) : (l.drop k).all f = true := all_cut n h1 (by rw [List.drop_drop]; exact h2)
theorem lg0 : lead0.all leadChk = true := by decide +kernel
theorem lg1 : lead1.all leadChk = true := by decide +kernel
theorem lead2c0 : ((lead2.drop 0).take 16).all leadChk = true := by decide +kernel
theorem lead2c16 : ((lead2.drop 16).take 16).all leadChk = true := by decide +kernel
theorem lead2c32 : ((lead2.drop 32).take 16).all leadChk = true := by decide +kernel
theorem lead2e : (lead2.drop 48).all leadChk = true := by decide +kernel
theorem lead2g : lead2.all leadChk = true := (all_cut' 0 16 lead2c0 (all_cut' 16 16 lead2c16 (all_cut' 32 16 lead2c32 lead2e)))
theorem lead3c0 : ((lead3.drop 0).take 16).all leadChk = true := by decide +kernel
theorem lead3c16 : ((lead3.drop 16).take 16).all leadChk = true := by decide +kernel
theorem lead3c32 : ((lead3.drop 32).take 16).all leadChk = true := by decide +kernel
theorem lead3c48 : ((lead3.drop 48).take 16).all leadChk = true := by decide +kernel
theorem lead3c64 : ((lead3.drop 64).take 16).all leadChk = true := by decide +kernel
theorem lead3c80 : ((lead3.drop 80).take 16).all leadChk = true := by decide +kernel
theorem lead3c96 : ((lead3.drop 96).take 16).all leadChk = true := by decide +kernel
theorem lead3c112 : ((lead3.drop 112).take 16).all leadChk = true := by decide +kernel
theorem lead3c128 : ((lead3.drop 128).take 16).all leadChk = true := by decide +kernel
theorem lead3c144 : ((lead3.drop 144).take 16).all leadChk = true := by decide +kernel
theorem lead3c160 : ((lead3.drop 160).take 16).all leadChk = true := by decide +kernel
theorem lead3c176 : ((lead3.drop 176).take 16).all leadChk = true := by decide +kernel
theorem lead3e : (lead3.drop 192).all leadChk = true := by decide +kernel
theorem lead3g : lead3.all leadChk = true := (all_cut' 0 16 lead3c0 (all_cut' 16 16 lead3c16 (all_cut' 32 16 lead3c32 (all_cut' 48 16 lead3c48 (all_cut' 64 16 lead3c64 (all_cut' 80 16 lead3c80 (all_cut' 96 16 lead3c96 (all_cut' 112 16 lead3c112 (all_cut' 128 16 lead3c128 (all_cut' 144 16 lead3c144 (all_cut' 160 16 lead3c160 (all_cut' 176 16 lead3c176 lead3e))))))))))))
theorem leads_good : leadAll.all leadChk = true := by
  unfold leadAll
  rw [List.all_append, List.all_append, List.all_append, lg0, lg1, lead2g, lead3g]; rfl
noncomputable def hnChk (p : List Nat) : Bool := bls.all fun bl => nannyF ((leadsC (headsI p) bl).map wsN) == headsI p
theorem hn0 : hnChk [0, 0, 0, 0] = true := by decide +kernel
theorem hn1 : hnChk [0, 0, 0, 1] = true := by decide +kernel
theorem hn2 : hnChk [0, 0, 1, 0] = true := by decide +kernel
theorem hn3 : hnChk [0, 0, 1, 1] = true := by decide +kernel
theorem hn4 : hnChk [0, 0, 1, 2] = true := by decide +kernel
theorem hn5 : hnChk [0, 1, 0, 0] = true := by decide +kernel
theorem hn6 : hnChk [0, 1, 0, 1] = true := by decide +kernel
theorem hn7 : hnChk [0, 1, 1, 0] = true := by decide +kernel
theorem hn8 : hnChk [0, 1, 1, 1] = true := by decide +kernel
theorem hn9 : hnChk [0, 1, 1, 2] = true := by decide +kernel
theorem hn10 : hnChk [0, 1, 2, 0] = true := by decide +kernel
theorem hn11 : hnChk [0, 1, 2, 1] = true := by decide +kernel
theorem hn12 : hnChk [0, 1, 2, 2] = true := by decide +kernel
theorem hn13 : hnChk [0, 1, 2, 3] = true := by decide +kernel
theorem heads_nanny : pagesN.all hnChk = true := pages_of hn0 hn1 hn2 hn3 hn4 hn5 hn6 hn7 hn8 hn9 hn10 hn11 hn12 hn13
theorem heads_lt : (pagesN.all fun p => decide ((headsI p).length = 4) && (List.range 4).all fun i => decide ((headsI p).getD i 0 < i)) = true := by decide +kernel
end Mine

-- part 74
namespace Mine
variable {Sp : Nat → List V → V → Prop}
theorem app_cps (x y : Str) : (x ++ y).cps.toList = x.cps.toList ++ y.cps.toList := by
  show (x.cps ++ y.cps).toList = _
  simp
theorem unit_cps : ((List.range 4).all fun i => (List.range 3).all fun b => (unitF i b).cps.toList == unitC i b && decide ((unitF i b).length ≤ 100)) = true := by decide +kernel
theorem unit_eq {i b : Nat} (hi : i < 4) (hb : b < 3) : (unitF i b).cps.toList = unitC i b ∧ (unitF i b).length ≤ 100 := by
  have h := List.all_eq_true.mp (List.all_eq_true.mp unit_cps i (List.mem_range.mpr hi)) b (List.mem_range.mpr hb)
  simp only [Bool.and_eq_true, beq_iff_eq, decide_eq_true_eq] at h
  exact h
theorem getDl_at {α : Type} {l : List α} {k : Nat} {d : α} (h : k < l.length) : l.getD k d = l[k] := by
  rw [List.getD_eq_getElem?_getD, List.getElem?_eq_getElem h]; rfl
theorem lead_cps {H : List Int} {leads : List Str} {i b : Nat} (hi : i < 4) (hb : b < 3) (hH : H.getD i 0 < leads.length) : (leadF H leads i b).cps.toList = leadC H (leads.map fun z => z.cps.toList) i b := by
  unfold leadF leadC
  split
  · rename_i h
    have hk : (H.getD i 0).toNat < leads.length := by omega
    rw [app_cps, (unit_eq hi hb).1]
    congr 1
    generalize (H.getD i 0).toNat = k at hk
    rw [getDl_at hk, getDl_at (by simpa using hk), List.getElem_map]
  · exact (unit_eq hi hb).1
theorem lead_in {H : List Int} {leads prev : List Str} {i b : Nat} (hb : b < 3) (hH : H.getD i 0 < leads.length) (hl : ∀ x ∈ leads, x ∈ prev) : leadF H leads i b ∈ blks i prev := by
  unfold blks
  refine List.mem_flatMap.mpr ⟨b, ?_, ?_⟩
  · match b, hb with
    | 0, _ => simp
    | 1, _ => simp
    | 2, _ => simp
  · unfold leadF
    split
    · rename_i h
      have hk : (H.getD i 0).toNat < leads.length := by omega
      generalize (H.getD i 0).toNat = k at hk ⊢
      refine List.mem_cons_of_mem _ (List.mem_map.mpr ⟨_, hl _ (List.getElem_mem hk), ?_⟩)
      rw [getDl_at hk]
    · exact List.mem_cons_self ..
structure Hds (H : List Int) : Prop where
  len : H.length = 4
  lt : ∀ i, i < 4 → H.getD i 0 < i
theorem lds_in {H : List Int} (h : Hds H) {bl : Nat → Nat} (hb : ∀ i, bl i < 3) : ld0 H bl ∈ lead0 ∧ ld1 H bl ∈ lead1 ∧ ld2 H bl ∈ lead2 ∧ ld3 H bl ∈ lead3 := by
  have h0 : ld0 H bl ∈ lead0 := lead_in (hb 0) (h.lt 0 (by omega)) (by simp)
  have h1 : ld1 H bl ∈ lead1 := lead_in (hb 1) (h.lt 1 (by omega)) (by simp [h0])
  have h2 : ld2 H bl ∈ lead2 := lead_in (hb 2) (h.lt 2 (by omega)) (by simp [h0, h1])
  exact ⟨h0, h1, h2, lead_in (hb 3) (h.lt 3 (by omega)) (by simp [h0, h1, h2])⟩
structure LeadOk (l : Str) : Prop where
  good : leadGood l = true
  ok : (wsN l.cps.toList).ok
  ws : ∀ sw, wsX (lineT l sw) = wsN l.cps.toList
  len : l.length ≤ 100
  size : ∀ sw, (lineT l sw).cps.size ≤ 1000
theorem lead_ok {l : Str} (h : l ∈ leadAll) : LeadOk l := by
  have h := List.all_eq_true.mp leads_good l h
  replace h : leadChk l = true := h
  unfold leadChk at h
  obtain ⟨h, h7⟩ := Bool.and_eq_true_iff.mp h
  obtain ⟨h, h6⟩ := Bool.and_eq_true_iff.mp h
  obtain ⟨h, h5⟩ := Bool.and_eq_true_iff.mp h
  obtain ⟨h, h4⟩ := Bool.and_eq_true_iff.mp h
  obtain ⟨h, h3⟩ := Bool.and_eq_true_iff.mp h
  obtain ⟨h1, h2⟩ := Bool.and_eq_true_iff.mp h
  exact ⟨h1, Wx.okB_ok h2, fun sw => by cases sw; exact Wx.same_eq h4; exact Wx.same_eq h3, of_decide_eq_true h5, fun sw => by cases sw; exact of_decide_eq_true h7; exact of_decide_eq_true h6⟩
theorem lds_ok {H : List Int} (h : Hds H) {bl : Nat → Nat} (hb : ∀ i, bl i < 3) : LeadOk (ld0 H bl) ∧ LeadOk (ld1 H bl) ∧ LeadOk (ld2 H bl) ∧ LeadOk (ld3 H bl) := by
  obtain ⟨h0, h1, h2, h3⟩ := lds_in h hb
  refine ⟨lead_ok ?_, lead_ok ?_, lead_ok ?_, lead_ok ?_⟩ <;> simp only [leadAll, List.mem_append]
  · exact .inl (.inl (.inl h0))
  · exact .inl (.inl (.inr h1))
  · exact .inl (.inr h2)
  · exact .inr h3
theorem lds_cps {H : List Int} (h : Hds H) {bl : Nat → Nat} (hb : ∀ i, bl i < 3) : [ld0 H bl, ld1 H bl, ld2 H bl, ld3 H bl].map (fun z => z.cps.toList) = leadsC H [bl 0, bl 1, bl 2, bl 3] := by
  have h0 : (ld0 H bl).cps.toList = leadC H [] 0 (bl 0) := lead_cps (by omega) (hb 0) (h.lt 0 (by omega))
  have h1 : (ld1 H bl).cps.toList = leadC H [leadC H [] 0 (bl 0)] 1 (bl 1) := by rw [← h0]; exact lead_cps (by omega) (hb 1) (h.lt 1 (by omega))
  have h2 : (ld2 H bl).cps.toList = leadC H [leadC H [] 0 (bl 0), leadC H [leadC H [] 0 (bl 0)] 1 (bl 1)] 2 (bl 2) := by rw [← h1, ← h0]; exact lead_cps (by omega) (hb 2) (h.lt 2 (by omega))
  have h3 : (ld3 H bl).cps.toList = leadC H [leadC H [] 0 (bl 0), leadC H [leadC H [] 0 (bl 0)] 1 (bl 1), leadC H [leadC H [] 0 (bl 0), leadC H [leadC H [] 0 (bl 0)] 1 (bl 1)] 2 (bl 2)] 3 (bl 3) := by rw [← h2, ← h1, ← h0]; exact lead_cps (by omega) (hb 3) (h.lt 3 (by omega))
  simp only [List.map_cons, List.map_nil, h0, h1, h2, h3]
  rfl
theorem hds_page {p : List Nat} (h : p ∈ pagesN) : Hds (headsI p) := by
  have h := List.all_eq_true.mp heads_lt p h
  simp only [Bool.and_eq_true, decide_eq_true_eq] at h
  exact ⟨h.1, fun i hi => of_decide_eq_true (List.all_eq_true.mp h.2 i (List.mem_range.mpr hi))⟩
noncomputable def linesF (p tells : List Nat) : List Str := [lineT (ld0 (headsI p) (blF tells)) (swF tells 0), lineT (ld1 (headsI p) (blF tells)) (swF tells 1), lineT (ld2 (headsI p) (blF tells)) (swF tells 2), lineT (ld3 (headsI p) (blF tells)) (swF tells 3)]
theorem bl_lt (tells : List Nat) (i : Nat) : blF tells i < 3 := Nat.mod_lt _ (by decide)
theorem vc_lines (p tells : List Nat) (hp : p ∈ pagesN) (ht : tells.length = 4) (hS : Sp 12 [.list (natsV p)] (.list (intsV (headsI p)))) :
    wpSs Sp co_law_lines [.fro (.list (natsV p)), .fro (.list (natsV tells)), .undef, .undef, .undef, .undef, .undef, .undef, .undef] (fun o => o = .ret (.list ((linesF p tells).map .str))) := by
  have hH := hds_page hp
  obtain ⟨k0, k1, k2, k3⟩ := lds_ok hH (bl_lt tells)
  have hu := fun i hi => (unit_eq (i := i) hi (bl_lt tells i)).2
  unfold co_law_lines
  refine s_cons (s_assign (e_lst (es_cons (e_str (es_cons (e_str (es_cons (e_str (es_cons (e_str (es_nil ?_))))))))))
  )
  refine s_cons (s_assign (e_call (es_cons (e_fro rfl (es_nil ⟨_, hS, ?_⟩)))))
  refine s_cons (s_ownList (es_nil (s_cons (s_ownList (es_nil ?_)))))
  refine s_cons (s_for1 (e_range (e_int (e_int (e_int ⟨0, 4, 1, rfl, rfl, rfl, by decide, _, rfl, ?_⟩)))))
  show forL (bind1 6) (fun ρ k => wpSs Sp linesB ρ k) [.int 0, .int 1, .int 2, .int 3] (linesρ p tells (headsI p) [] [] .undef .undef .undef) _
  refine f_cons1 (vc_lstep p tells _ [] [] 0 .undef .undef (by omega) ht hH.len (hH.lt 0 (by omega)) rfl (by simp) (by simp) (hu 0 (by omega)) k0.good _ fun l' r' => l_next ?_)
  refine f_cons1 (vc_lstep p tells _ _ _ 1 l' r' (by omega) ht hH.len (hH.lt 1 (by omega)) rfl (by simp) (fun x hx => ?_) (hu 1 (by omega)) k1.good _ fun l' r' => l_next ?_)
  · simp only [List.nil_append, List.mem_singleton] at hx
    rw [hx]; exact k0.len
  refine f_cons1 (vc_lstep p tells _ _ _ 2 l' r' (by omega) ht hH.len (hH.lt 2 (by omega)) rfl (by simp) (fun x hx => ?_) (hu 2 (by omega)) k2.good _ fun l' r' => l_next ?_)
  · simp only [List.nil_append, List.cons_append, List.mem_cons, List.not_mem_nil, or_false] at hx
    rcases hx with rfl | rfl
    · exact k0.len
    · exact k1.len
  refine f_cons1 (vc_lstep p tells _ _ _ 3 l' r' (by omega) ht hH.len (hH.lt 3 (by omega)) rfl (by simp) (fun x hx => ?_) (hu 3 (by omega)) k3.good _ fun l' r' => l_next ?_)
  · simp only [List.nil_append, List.cons_append, List.mem_cons, List.not_mem_nil, or_false] at hx
    rcases hx with rfl | rfl | rfl
    · exact k0.len
    · exact k1.len
    · exact k2.len
  refine f_nil (s_cons (s_ret (e_own rfl rfl)))
end Mine

-- part 75
namespace Mine
variable {Sp : Nat → List V → V → Prop}
theorem cl_map {f : V → (List V → Prop) → Prop} {α : Type} (u : α → V) (g : α → V) : ∀ (xs : List α) (acc : List V) (Q : List V → Prop), (∀ x ∈ xs, ∀ R : List V → Prop, R [g x] → f (u x) R) → Q (acc ++ xs.map g) → compL f (xs.map u) acc Q
  | [], acc, Q, _, h => by
    unfold compL; simpa using h
  | x :: xs, acc, Q, hf, h => by
    show f (u x) _
    refine hf x (List.mem_cons_self ..) _ ?_
    refine cl_map u g xs _ Q (fun y hy => hf y (List.mem_cons_of_mem _ hy)) ?_
    simpa using h
theorem cl_one {elt : CE} {x : V} {ρ : List Slot} {R : List V → Prop} (h : wpE Sp elt ([.fro x] ++ frozen ρ) fun y _ => R [y]) : bindN false x fun bs => wpC Sp none (bs ++ frozen ρ) fun b => (b = true → wpE Sp elt (bs ++ frozen ρ) fun y _ => R [y]) ∧ (b = false → R []) := ⟨fun _ => h, fun e => by cases e⟩
theorem vs_get {α : Type} {u : α → V} {l : List α} {i : Nat} {d : α} (h : i < l.length) (hl : l.length ≤ 1048576) : idxV (.list (l.map u)) (.int i) = some (u (l.getD i d)) := by
  show (if (l.map u).length ≤ 1048576 then (seqIndex? (i : Int) (l.map u).length).bind ((l.map u)[·]?) else none) = _
  rw [if_pos (by simpa using hl), seq_nat (by simpa using h)]
  simp [List.getElem?_eq_getElem h]
noncomputable abbrev dX : Wx := ⟨0, 0, 0, [], false⟩
noncomputable abbrev nanρ (ls : V) (xs : List Wx) (hs : List Int) (i k s : Slot) : List Slot := [.fro ls, .fro (.list (xs.map Wx.v)), .own (intsV hs), i, k, s]
noncomputable abbrev nanW : List CS := [.assign 5 (.mcall (.subv 1 (.var 4)) 33 [(.subv 1 (.var 3))]), .ite (.cmp .Is (.var 5) (.bool true)) [.brk] [], .ite (.cmp .IsNot (.var 5) (.bool false)) [.ret (.lst [])] [], .aug 4 .Sub (.int 1)]
theorem vc_nanW (ls : V) (xs : List Wx) (hs : List Int) (i : Nat) (hi : i < xs.length) (hx : xs.length ≤ 10) (hS : ∀ x ∈ xs, ∀ y ∈ xs, Sp 33 [x.v, y.v] (.bool (lessF x y))) (R : Out → Prop) : ∀ (m : Nat) (s : Slot), m ≤ i →
    (∀ s', R (.next (nanρ ls xs hs (.fro (.int i)) (.fro (.int (seekD (fun k => lessF (xs.getD k dX) (xs.getD i dX)) m))) s'))) →
    whileN (fun ρ k => wpE Sp (.cmp .GtE (.var 4) (.int 0)) ρ fun v ρ₁ => ∃ x, v = .bool x ∧ k x ρ₁) (fun ρ k => wpSs Sp nanW ρ k) (m + 1) (nanρ ls xs hs (.fro (.int i)) (.fro (.int ((m : Int) - 1))) s) R
  | 0, s, _, h => by
    refine w_step (e_cmp (e_fro rfl (e_int (c_ge (iw_false (decide_eq_false (by omega)) ?_)))))
    exact h s
  | m + 1, s, hm, h => by
    refine w_step (e_cmp (e_fro rfl (e_int (c_ge (iw_true (decide_eq_true (by omega)) ?_)))))
    rw [show (((m + 1 : Nat) : Int) - 1) = (m : Int) by omega]
    refine s_cons (s_assign (e_mcall (e_subv rfl (by simp [slotV]) (e_fro rfl (x_get rfl (vs_get (u := Wx.v) (l := xs) (i := m) (d := dX) (by omega) (by omega)) ⟨⟨_, _, _, _, _, rfl⟩, es_cons (e_subv rfl (by simp [slotV]) (e_fro rfl (x_get rfl (vs_get (u := Wx.v) (l := xs) (i := i) (d := dX) (by omega) (by omega)) (es_nil ?_))))⟩)))))
    have m1 : xs.getD m dX ∈ xs := by rw [getDl_at (by omega)]; exact List.getElem_mem _
    have m2 : xs.getD i dX ∈ xs := by rw [getDl_at (by omega)]; exact List.getElem_mem _
    refine ⟨_, hS _ m1 _ m2, ?_⟩
    refine s_cons (s_ite (e_cmp (e_fro rfl (e_bool (c_isB ?_)))))
    unfold seekD at h
    cases hb : lessF (xs.getD m dX) (xs.getD i dX) with
    | true =>
      rw [hb] at h
      refine i_true rfl (s_cons (s_brk (l_brk ?_)))
      exact h _
    | false =>
      rw [hb] at h
      refine i_false rfl (s_nil (s_cons (s_ite (e_cmp (e_fro rfl (e_bool (c_isnB (i_false rfl (s_nil ?_)))))))))
      refine s_cons (s_aug rfl (e_int (b_sub ?_)))
      refine s_nil (l_next ?_)
      exact vc_nanW ls xs hs i hi hx hS R m _ (by omega) h
theorem vc_nanB (ls : V) (xs : List Wx) (hs : List Int) (i : Nat) (k s : Slot) (hi : i < xs.length) (hx : xs.length ≤ 10) (hh : hs.length ≤ 10) (hS : ∀ x ∈ xs, ∀ y ∈ xs, Sp 33 [x.v, y.v] (.bool (lessF x y))) (R : Out → Prop)
    (h : ∀ k' s', R (.next (nanρ ls xs (hs ++ [seekD (fun k => lessF (xs.getD k dX) (xs.getD i dX)) i]) (.fro (.int i)) k' s'))) :
    wpSs Sp [.assign 4 (.bin .Sub (.var 3) (.int 1)), .whil (.cmp .GtE (.var 4) (.int 0)) nanW, .append 2 (.var 4)] (nanρ ls xs hs (.fro (.int i)) k s) R := by
  refine s_cons (s_assign (e_bin (e_fro rfl (e_int (b_sub ?_)))))
  refine s_cons (s_whil (i + 1) (vc_nanW ls xs hs i hi hx hS _ i s (by omega) fun s' => ?_))
  refine s_cons (s_append rfl (e_fro rfl ⟨by simp [intsV]; omega, s_nil ?_⟩))
  have := h (.fro (.int (seekD (fun k => lessF (xs.getD k dX) (xs.getD i dX)) i))) s'
  have e : intsV (hs ++ [seekD (fun k => lessF (xs.getD k dX) (xs.getD i dX)) i]) = intsV hs ++ [.int (seekD (fun k => lessF (xs.getD k dX) (xs.getD i dX)) i)] := by simp [intsV]
  unfold nanρ at this
  rw [e] at this
  exact this
theorem vc_nanny (zs : List Str) (h4 : zs.length = 4) (h9 : ∀ z ∈ zs, Sp 9 [.str z] (wsX z).v) (hS : ∀ x ∈ zs.map wsX, ∀ y ∈ zs.map wsX, Sp 33 [x.v, y.v] (.bool (lessF x y))) :
    wpSs Sp co_law_nanny [.fro (.list (zs.map .str)), .undef, .undef, .undef, .undef, .undef] (fun o => o = .ret (.list (intsV (nannyF (zs.map wsX))))) := by
  unfold co_law_nanny
  refine s_cons (s_assign (e_comp (e_fro rfl ⟨_, iterV_list (by simp; omega), ?_⟩)))
  refine cl_map V.str (fun z => (wsX z).v) zs [] _ (fun z hz R hR => cl_one (e_call (es_cons (e_fro rfl (es_nil ⟨_, h9 z hz, hR⟩))))) ?_
  refine s_cons (s_ownList (es_nil ?_))
  refine s_cons (s_for1 (e_range (e_int (e_int (e_int ⟨0, 4, 1, rfl, rfl, rfl, by decide, _, rfl, ?_⟩)))))
  have e : [] ++ zs.map (fun z => (wsX z).v) = (zs.map wsX).map Wx.v := by simp
  rw [e]
  have hl : (zs.map wsX).length = 4 := by simpa using h4
  generalize zs.map wsX = xs at hS hl
  show forL (bind1 3) (fun ρ k => wpSs Sp [.assign 4 (.bin .Sub (.var 3) (.int 1)), .whil (.cmp .GtE (.var 4) (.int 0)) nanW, .append 2 (.var 4)] ρ k) [.int 0, .int 1, .int 2, .int 3] (nanρ (.list (zs.map .str)) xs [] .undef .undef .undef) _
  refine f_cons1 (vc_nanB _ xs _ 0 _ _ (by omega) (by omega) (by simp) hS _ fun k' s' => l_next ?_)
  refine f_cons1 (vc_nanB _ xs _ 1 _ _ (by omega) (by omega) (by simp) hS _ fun k' s' => l_next ?_)
  refine f_cons1 (vc_nanB _ xs _ 2 _ _ (by omega) (by omega) (by simp) hS _ fun k' s' => l_next ?_)
  refine f_cons1 (vc_nanB _ xs _ 3 _ _ (by omega) (by omega) (by simp) hS _ fun k' s' => l_next ?_)
  refine f_nil (s_cons (s_ret (e_own rfl rfl)))
end Mine

-- part 76
namespace Mine
variable {Sp : Nat → List V → V → Prop}
theorem in3 {a : Nat} (h : a < 3) : a ∈ [0, 1, 2] := by
  match a, h with
  | 0, _ => simp
  | 1, _ => simp
  | 2, _ => simp
theorem bl_in (tells : List Nat) : [blF tells 0, blF tells 1, blF tells 2, blF tells 3] ∈ bls :=
  List.mem_flatMap.mpr ⟨_, in3 (bl_lt tells 0), List.mem_flatMap.mpr ⟨_, in3 (bl_lt tells 1), List.mem_flatMap.mpr ⟨_, in3 (bl_lt tells 2), List.mem_map.mpr ⟨_, in3 (bl_lt tells 3), rfl⟩⟩⟩⟩
theorem lines_ws (p tells : List Nat) (hp : p ∈ pagesN) : (linesF p tells).map wsX = (leadsC (headsI p) [blF tells 0, blF tells 1, blF tells 2, blF tells 3]).map wsN := by
  have hH := hds_page hp
  obtain ⟨k0, k1, k2, k3⟩ := lds_ok hH (bl_lt tells)
  rw [← lds_cps hH (bl_lt tells)]
  unfold linesF
  simp only [List.map_cons, List.map_nil, k0.ws, k1.ws, k2.ws, k3.ws]
theorem lines_heads (p tells : List Nat) (hp : p ∈ pagesN) : nannyF ((linesF p tells).map wsX) = headsI p := by
  rw [lines_ws p tells hp]
  exact eq_of_beq (List.all_eq_true.mp (show (bls.all fun bl => nannyF ((leadsC (headsI p) bl).map wsN) == headsI p) = true from List.all_eq_true.mp heads_nanny p hp) _ (bl_in tells))
theorem lines_ok (p tells : List Nat) (hp : p ∈ pagesN) : (∀ z ∈ linesF p tells, z.cps.size ≤ 1000) ∧ ∀ x ∈ (linesF p tells).map wsX, x.ok := by
  have hH := hds_page hp
  obtain ⟨k0, k1, k2, k3⟩ := lds_ok hH (bl_lt tells)
  refine ⟨fun z hz => ?_, fun x hx => ?_⟩
  · simp only [linesF, List.mem_cons, List.not_mem_nil, or_false] at hz
    rcases hz with rfl | rfl | rfl | rfl
    · exact k0.size _
    · exact k1.size _
    · exact k2.size _
    · exact k3.size _
  · simp only [linesF, List.map_cons, List.map_nil, List.mem_cons, List.not_mem_nil, or_false] at hx
    rcases hx with rfl | rfl | rfl | rfl
    · rw [k0.ws]; exact k0.ok
    · rw [k1.ws]; exact k1.ok
    · rw [k2.ws]; exact k2.ok
    · rw [k3.ws]; exact k3.ok
theorem and63 (c : Nat) : c &&& 63 = c % 64 := Nat.and_two_pow_sub_one_eq_mod c 6
theorem and64 (c : Nat) : c &&& 64 = 0 ↔ c / 64 % 2 = 0 := by
  have hb : c.testBit 6 = decide (c / 64 % 2 = 1) := by rw [Nat.testBit_eq_decide_div_mod_eq]
  constructor
  · intro h
    have : (c &&& 2 ^ 6).testBit 6 = false := by rw [show (2 : Nat) ^ 6 = 64 from rfl, h]; rfl
    rw [Nat.testBit_and, Nat.testBit_two_pow_self, Bool.and_true, hb] at this
    have := of_decide_eq_false this
    omega
  · intro h
    refine Nat.eq_of_testBit_eq fun i => ?_
    rw [show (64 : Nat) = 2 ^ 6 from rfl, Nat.testBit_and, Nat.testBit_two_pow, Nat.zero_testBit]
    by_cases e : 6 = i
    · subst e; rw [hb, decide_eq_false (by omega)]; rfl
    · simp [e]
theorem or64 (v y : Nat) (hy : y < 64) : v * 64 ||| y = v * 64 + y := by
  have := Nat.two_pow_add_eq_or_of_lt (i := 6) (b := y) (by simpa using hy) v
  rw [show v * 64 = 2 ^ 6 * v by omega]
  exact this.symm
theorem vgo_0 (r : List Nat) (b val : Nat) (h : b / 64 % 2 = 0) : vgo r b val = some (val, 0) := by
  cases r <;> unfold vgo <;> rw [if_pos ((and64 b).mpr h)]
theorem vgo_1 (c : Nat) (r : List Nat) (b val : Nat) (h : b / 64 % 2 = 1) (hv : val < 2 ^ 60) : vgo (c :: r) b val = (vgo r c (val * 64 + c % 64)).map fun p => (p.1, p.2 + 1) := by
  rw [vgo, if_neg (fun e => by rw [and64] at e; omega), if_pos hv, and63, or64 _ _ (Nat.mod_lt _ (by decide))]
theorem vgo_figs (x : Nat) (hx : x < 262144) (m : Nat) (hm : m = 0 ∨ m = 128) (r : List Nat) : ∃ c cs, figs x = c :: cs ∧ vgo (cs ++ r) (m + c) ((m + c) &&& 63) = some (x, cs.length) := by
  unfold figs
  split
  · refine ⟨_, _, rfl, ?_⟩
    rw [List.nil_append, vgo_0 _ _ _ (by omega), and63]
    congr 2; omega
  · split
    · refine ⟨_, _, rfl, ?_⟩
      rw [and63, List.cons_append, List.nil_append, vgo_1 _ _ _ _ (by omega) (by omega), vgo_0 _ _ _ (by omega)]
      simp; omega
    · refine ⟨_, _, rfl, ?_⟩
      rw [and63, List.cons_append, List.cons_append, List.nil_append, vgo_1 _ _ _ _ (by omega) (by omega), vgo_1 _ _ _ _ (by omega) (by omega), vgo_0 _ _ _ (by omega)]
      simp; omega
theorem figs_lt (x : Nat) : (∀ y ∈ figs x, y < 128) ∧ (figs x).length ≤ 3 ∧ figs x ≠ [] := by
  unfold figs
  split
  · exact ⟨fun y hy => by simp at hy; omega, by simp, by simp⟩
  · split
    · exact ⟨fun y hy => by simp at hy; omega, by simp, by simp⟩
    · exact ⟨fun y hy => by simp at hy; omega, by simp, by simp⟩
noncomputable def octP (p : Nat × Nat) : List Nat := match figs p.1 ++ figs p.2 with
  | [] => []
  | c :: r => (128 + c) :: r
noncomputable def octF (tbl : List (Nat × Nat)) : List Nat := tbl.flatMap octP
theorem oct_lt (tbl : List (Nat × Nat)) : ∀ x ∈ octF tbl, x < 256 := by
  intro x hx
  obtain ⟨p, _, hx⟩ := List.mem_flatMap.mp hx
  unfold octP at hx
  have ha := (figs_lt p.1).1
  have hb := (figs_lt p.2).1
  have hall : ∀ y ∈ figs p.1 ++ figs p.2, y < 128 := fun y hy => by
    rcases List.mem_append.mp hy with h | h
    · exact ha y h
    · exact hb y h
  generalize figs p.1 ++ figs p.2 = l at hx hall
  cases l with
  | nil => simp at hx
  | cons c r =>
    simp only [List.mem_cons] at hx
    rcases hx with rfl | hx
    · have := hall c (List.mem_cons_self ..); omega
    · have := hall x (List.mem_cons_of_mem _ hx); omega
theorem octP_len (p : Nat × Nat) : (octP p).length ≤ 6 := by
  unfold octP
  have ha := (figs_lt p.1).2.1
  have hb := (figs_lt p.2).2.1
  have : (figs p.1 ++ figs p.2).length ≤ 6 := by rw [List.length_append]; omega
  generalize figs p.1 ++ figs p.2 = l at this
  cases l <;> simp at this ⊢; omega
theorem oct_len : ∀ (tbl : List (Nat × Nat)), (octF tbl).length ≤ 6 * tbl.length
  | [] => by simp [octF]
  | p :: tbl => by
    have h1 := octP_len p
    have h2 := oct_len tbl
    unfold octF at h2 ⊢
    rw [List.flatMap_cons, List.length_append, List.length_cons]
    omega
end Mine

-- part 77
namespace Mine
variable {Sp : Nat → List V → V → Prop}
theorem restAt_drop (data : Array UInt8) (pos k : Nat) : restAt data (pos + k) = (restAt data pos).drop k := by
  unfold restAt
  rw [← List.map_drop, List.drop_drop]
theorem rest_bytes (l : List Nat) (h : ∀ x ∈ l, x < 256) : restAt (PySem.byteArr (l.map Int.ofNat)) 0 = l := by
  unfold restAt PySem.byteArr
  simp only [List.drop_zero, List.map_map]
  conv => rhs; rw [← List.map_id l]
  refine List.map_congr_left fun x hx => ?_
  have := h x hx
  simp
  omega
theorem reads_to (data : Array UInt8) : ∀ (tbl : List (Nat × Nat)) (pos : Nat), (∀ p ∈ tbl, p.1 < 262144 ∧ p.2 < 262144) → restAt data pos = octF tbl → ReadsTo data pos tbl
  | [], pos, _, h => by
    unfold restAt octF at h
    simp at h
    show data[pos]? = none
    simp
    omega
  | (a, b) :: tbl, pos, hb, h => by
    obtain ⟨ha, hb'⟩ := hb (a, b) (List.mem_cons_self ..)
    obtain ⟨c', cs', e2, v2⟩ := vgo_figs b hb' 0 (.inl rfl) (octF tbl)
    obtain ⟨c, cs, e1, v1⟩ := vgo_figs a ha 128 (.inr rfl) (c' :: (cs' ++ octF tbl))
    have e : octF ((a, b) :: tbl) = (128 + c) :: (cs ++ (c' :: (cs' ++ octF tbl))) := by
      unfold octF
      rw [List.flatMap_cons]
      unfold octP
      rw [e1, e2]
      simp
    rw [e] at h
    rw [Nat.zero_add] at v2
    have r1 : restAt data (pos + 1 + cs.length) = c' :: (cs' ++ octF tbl) := by
      rw [Nat.add_assoc, restAt_drop, h, Nat.add_comm 1, List.drop_succ_cons, List.drop_left]
    refine ⟨_, _, _, _, _, _, h, v1, r1, v2, reads_to data tbl _ (fun p hp => hb p (List.mem_cons_of_mem _ hp)) ?_⟩
    rw [Nat.add_assoc (pos + 1 + cs.length), restAt_drop, r1, Nat.add_comm 1, List.drop_succ_cons, List.drop_left]
theorem ints_nats (l : List Nat) : intsV (l.map Int.ofNat) = natsV l := by
  unfold intsV natsV
  rw [List.map_map]; rfl
noncomputable abbrev rdρ (tbl : List (Nat × Nat)) (oct : List Nat) (s2 s3 s4 : Slot) : List Slot := [.fro (.list (tblV tbl)), .own (natsV oct), s2, s3, s4, .undef, .undef]
noncomputable abbrev rdB : List CS := [.assign 4 (.bin .Add (.call 19 [.var 2]) (.call 19 [.var 3])), .ext 1 (.bin .Add (.lst [.bin .Add (.int 128) (.subv 4 (.int 0))]) (.slcv 4 (some (.int 1)) none none))]
theorem vc_rdL (tbl₀ : List (Nat × Nat)) (R : Out → Prop) : ∀ (tbl : List (Nat × Nat)) (oct : List Nat) (s2 s3 s4 : Slot), oct.length + 6 * tbl.length ≤ 100 → (∀ p ∈ tbl, Sp 19 [.int p.1] (.list (natsV (figs p.1))) ∧ Sp 19 [.int p.2] (.list (natsV (figs p.2)))) →
    (∀ s2 s3 s4, R (.next (rdρ tbl₀ (oct ++ octF tbl) s2 s3 s4))) → forL (bindP 2 3) (fun ρ k => wpSs Sp rdB ρ k) (tblV tbl) (rdρ tbl₀ oct s2 s3 s4) R
  | [], oct, s2, s3, s4, _, _, h => by
    refine f_nil ?_
    have := h s2 s3 s4
    rwa [show octF [] = [] from rfl, List.append_nil] at this
  | (a, b) :: tbl, oct, s2, s3, s4, hl, hS, h => by
    obtain ⟨h1, h2⟩ := hS (a, b) (List.mem_cons_self ..)
    have hlo := octP_len (a, b)
    have ha := figs_lt a
    have hb := figs_lt b
    show forL _ _ (.tup [.int a, .int b] :: tblV tbl) _ _
    refine f_cons2 ?_
    refine s_cons (s_assign (e_bin (e_call (es_cons (e_fro rfl (es_nil ⟨_, h1, e_call (es_cons (e_fro rfl (es_nil ⟨_, h2, b_addL ?_ ?_⟩)))⟩))))))
    · have := ha.2.1; have := hb.2.1; simp [natsV]; omega
    have e1 : natsV (figs a) ++ natsV (figs b) = natsV (figs a ++ figs b) := by simp [natsV]
    rw [e1]
    have hlen : (figs a ++ figs b).length ≤ 6 := by have := ha.2.1; have := hb.2.1; simp; omega
    obtain ⟨c, r, he⟩ : ∃ c r, figs a ++ figs b = c :: r := by
      cases q : figs a ++ figs b with
      | nil => simp at q; exact absurd q.1 ha.2.2
      | cons c r => exact ⟨c, r, rfl⟩
    have hP : octP (a, b) = (128 + c) :: r := by unfold octP; rw [he]
    rw [he] at hlen ⊢
    simp only [List.length_cons] at hlen
    refine s_cons (s_ext rfl (e_bin (e_lst (es_cons (e_bin (e_int (e_subv rfl (by simp [slotV]) (e_int (x_get rfl (nats_get (l := c :: r) (i := 0) (by simp) (by simp; omega)) (b_add (es_nil ?_))))))))))
    )
    refine e_slcv rfl (by simp [slotV]) (o_some (e_int (o_none (o_none ?_))))
    have hsl : sliceV (.list (natsV (c :: r))) (some 1) none none = some (.list (natsV r)) := by
      show (if (none : Option Int) ≠ some 0 ∧ (natsV (c :: r)).length ≤ 1048576 then some (V.list (pickL (natsV (c :: r)) _ _ none)) else none) = _
      rw [if_pos ⟨by simp, by simp [natsV]; omega⟩, show (1 : Int) = ((1 : Nat) : Int) from rfl, pick_a _ _ (by simp [natsV])]
      simp [natsV]
    refine ⟨_, _, _, _, _, rfl, rfl, rfl, rfl, hsl, b_addL (by simp [natsV]; omega) ⟨_, rfl, ?_⟩⟩
    refine ⟨by simp [natsV, hP] at hlo ⊢; simp only [List.length_cons] at hl; omega, s_nil (l_next ?_)⟩
    have e2 : natsV oct ++ ([V.int (128 + ((c :: r).getD 0 0 : Nat))] ++ natsV r) = natsV (oct ++ octP (a, b)) := by
      rw [hP]; simp [natsV]
    have ih := vc_rdL tbl₀ R tbl (oct ++ octP (a, b)) (.fro (.int a)) (.fro (.int b)) (.fro (.list (natsV (c :: r)))) (by simp only [List.length_cons, List.length_append] at hl ⊢; omega) (fun p hp => hS p (List.mem_cons_of_mem _ hp)) (fun s2 s3 s4 => by
      have := h s2 s3 s4
      rw [show octF ((a, b) :: tbl) = octP (a, b) ++ octF tbl from List.flatMap_cons .., ← List.append_assoc] at this
      exact this)
    unfold rdρ at ih
    rw [← e2] at ih
    exact ih
theorem vc_read (tbl : List (Nat × Nat)) (hl : tbl.length ≤ 4) (hS : ∀ p ∈ tbl, Sp 19 [.int p.1] (.list (natsV (figs p.1))) ∧ Sp 19 [.int p.2] (.list (natsV (figs p.2)))) :
    wpSs Sp co_read_a [.fro (.list (tblV tbl)), .undef, .undef, .undef, .undef, .undef, .undef] (fun o => ∃ s2 s3 s4, o = .next [.fro (.list (tblV tbl)), .own (intsV ((octF tbl).map Int.ofNat)), s2, s3, s4, .undef, .undef]) := by
  unfold co_read_a
  refine s_cons (s_ownList (es_nil (s_cons (s_for2 (e_fro rfl ⟨_, iterV_list (by simp [tblV]; omega), ?_⟩)))))
  refine vc_rdL tbl _ tbl [] .undef .undef .undef (by simp; omega) hS fun s2 s3 s4 => s_nil ?_
  rw [ints_nats]
  exact ⟨s2, s3, s4, rfl⟩
end Mine

-- part 78
namespace Mine
variable {Sp : Nat → List V → V → Prop}
noncomputable def tabF (sizes ends : List Nat) : List (Nat × Nat) := (List.range 4).map fun i => ((sizes.take i).sum, ((sizes.drop i).take (ends.getD i 0 - i)).sum)
theorem ends_bd : (pagesN.all fun p => decide ((endsN p).length = 4) && (List.range 4).all fun i => decide (i ≤ (endsN p).getD i 0 ∧ (endsN p).getD i 0 ≤ 4)) = true := by decide +kernel
structure EndsOk (e : List Nat) : Prop where
  len : e.length = 4
  lo : ∀ i, i < 4 → i ≤ e.getD i 0
  hi : ∀ i, i < 4 → e.getD i 0 ≤ 4
theorem ends_ok {p : List Nat} (hp : p ∈ pagesN) : EndsOk (endsN p) := by
  have h := List.all_eq_true.mp ends_bd p hp
  obtain ⟨h1, h2⟩ := Bool.and_eq_true_iff.mp h
  have h2 := fun i hi => of_decide_eq_true (List.all_eq_true.mp h2 i (List.mem_range.mpr hi))
  exact ⟨of_decide_eq_true h1, fun i hi => (h2 i hi).1, fun i hi => (h2 i hi).2⟩
theorem nums_nats : ∀ (l : List Nat), numsV (natsV l) = some (l.map Int.ofNat)
  | [] => rfl
  | x :: l => by
    show (numsV (natsV l)).map ((x : Int) :: ·) = _
    rw [nums_nats l]; rfl
theorem sum_nats : ∀ (l : List Nat), (l.map Int.ofNat).sum = (l.sum : Int)
  | [] => rfl
  | x :: l => by
    rw [List.map_cons, List.sum_cons, sum_nats l, List.sum_cons]; simp
theorem slice_nats {l : List Nat} (h : l.length ≤ 1000) (lo hi st : Option Int) (hs : st ≠ some 0) : sliceV (.list (natsV l)) lo hi st = some (.list (natsV (pickL l lo hi st))) := by
  show (if st ≠ some 0 ∧ (natsV l).length ≤ 1048576 then some (V.list (pickL (natsV l) lo hi st)) else none) = _
  rw [if_pos ⟨hs, by simp only [natsV, List.length_map]; omega⟩]
  unfold natsV
  rw [pick_map]
theorem vc_table (p sizes : List Nat) (hp : p ∈ pagesN) (h4 : sizes.length = 4) (hS : Sp 11 [.list (natsV p)] (.list (natsV (endsN p)))) :
    wpSs Sp co_law_table [.fro (.list (natsV p)), .fro (.list (natsV sizes)), .undef] (fun o => o = .ret (.list (tblV (tabF sizes (endsN p))))) := by
  have hE := ends_ok hp
  unfold co_law_table
  refine s_cons (s_assign (e_call (es_cons (e_fro rfl (es_nil ⟨_, hS, ?_⟩)))))
  refine s_cons (s_ret (e_comp (e_range (e_int (e_int (e_int ⟨0, 4, 1, rfl, rfl, rfl, by decide, _, rfl, ?_⟩))))))
  refine cl_map (fun (n : Nat) => V.int n) (fun (i : Nat) => V.tup [.int ((sizes.take i).sum : Nat), .int (((sizes.drop i).take ((endsN p).getD i 0 - i)).sum : Nat)]) [0, 1, 2, 3] [] _ (fun i hi R hR => cl_one ?_) ?_
  · have hi4 : i < 4 := by simp at hi; omega
    have hlo := hE.lo i hi4
    have hhi := hE.hi i hi4
    have hlen := hE.len
    refine e_tup (es_cons (e_sum (e_slcv rfl (by simp [slotV]) (o_none (o_some (e_fro rfl (o_none ?_)))))))
    refine ⟨_, _, _, _, _, rfl, rfl, rfl, rfl, slice_nats (by omega) _ _ _ (by simp), ?_⟩
    rw [pick_b _ _ (by omega)]
    refine ⟨_, _, rfl, nums_nats _, by simp [natsV]; omega, ?_⟩
    rw [sum_nats]
    refine es_cons (e_sum (e_slcv rfl (by simp [slotV]) (o_some (e_fro rfl (o_some (e_subv rfl (by simp [slotV]) (e_fro rfl (x_get rfl (nats_get (l := endsN p) (by omega) (by omega)) (o_none ?_)))))))))
    refine ⟨_, _, _, _, _, rfl, rfl, rfl, rfl, slice_nats (by omega) _ _ _ (by simp), ?_⟩
    rw [pick_ab _ _ _ hlo (by omega)]
    refine ⟨_, _, rfl, nums_nats _, by simp [natsV]; omega, ?_⟩
    rw [sum_nats]
    exact es_nil hR
  · show Out.ret _ = _
    simp [tblV, tabF, List.range_succ]
noncomputable def pageN (l : List Nat) : List Nat := [0, l.getD 0 0 % 2, l.getD 1 0 % (l.getD 0 0 % 2 + 2), l.getD 2 0 % (l.getD 1 0 % (l.getD 0 0 % 2 + 2) + 2)]
theorem page_in (l : List Nat) : pageN l ∈ pagesN := by
  have h : ∀ a, a < 2 → ∀ b, b < a + 2 → ∀ c, c < b + 2 → ([0, a, b, c] : List Nat) ∈ pagesN := by
    intro a ha b hb c hc
    have : (a = 0 ∨ a = 1) ∧ (b = 0 ∨ b = 1 ∨ b = 2) ∧ (c = 0 ∨ c = 1 ∨ c = 2 ∨ c = 3) := by omega
    obtain ⟨h1, h2, h3⟩ := this
    rcases h1 with rfl | rfl <;> rcases h2 with rfl | rfl | rfl <;> rcases h3 with rfl | rfl | rfl | rfl <;> first
      | omega
      | decide
  exact h _ (Nat.mod_lt _ (by omega)) _ (Nat.mod_lt _ (by omega)) _ (Nat.mod_lt _ (by omega))
theorem vc_pageN (a b c d : Nat) : wpSs Sp co_law_page [.fro (.list (natsV [a, b, c, d])), .undef, .undef] (fun o => o = .ret (.list (natsV (pageN [a, b, c, d])))) := by
  have h := vc_page (Sp := Sp) (a : Int) (b : Int) (c : Int) (d : Int) (by omega) (by omega)
  have e : intsV (pageF (a : Int) (b : Int) (c : Int)) = natsV (pageN [a, b, c, d]) := by
    unfold pageF
    have e1 : (a : Int).fmod 2 = ((a % 2 : Nat) : Int) := fmod_nat a 2
    have e2 : (b : Int).fmod (((a % 2 : Nat) : Int) + 2) = ((b % (a % 2 + 2) : Nat) : Int) := fmod_nat b (a % 2 + 2)
    have e3 : (c : Int).fmod (((b % (a % 2 + 2) : Nat) : Int) + 2) = ((c % (b % (a % 2 + 2) + 2) : Nat) : Int) := fmod_nat c (b % (a % 2 + 2) + 2)
    rw [e1, e2, e3]
    rfl
  rw [e] at h
  exact h
end Mine

-- part 79
namespace Mine
noncomputable def hadT : List (List Nat × List (List Nat) × List (List Nat)) := [([0, 0, 0, 0], [[0, 0, 0, 0]], [[0, 0, 0, 0], [0, 1, 0, 0], [0, 0, 1, 0], [0, 0, 0, 1], [0, 1, 1, 0], [0, 1, 0, 1], [0, 1, 2, 0], [0, 0, 1, 1], [0, 0, 1, 2], [0, 1, 1, 1], [0, 1, 1, 2], [0, 1, 2, 1], [0, 1, 2, 2], [0, 1, 2, 3]]),
  ([0, 0, 0, 1], [[0, 0, 0, 1], [0, 0, 0, 0]], [[0, 0, 0, 1], [0, 1, 0, 1], [0, 0, 1, 2], [0, 1, 1, 2], [0, 1, 2, 3]]),
  ([0, 0, 1, 0], [[0, 0, 1, 0], [0, 0, 0, 0]], [[0, 0, 1, 0], [0, 1, 2, 0], [0, 0, 1, 1], [0, 1, 2, 1], [0, 1, 2, 2], [0, 0, 1, 2], [0, 1, 2, 3]]),
  ([0, 0, 1, 1], [[0, 0, 1, 1], [0, 0, 1, 0], [0, 0, 0, 0]], [[0, 0, 1, 1], [0, 1, 2, 2], [0, 0, 1, 2], [0, 1, 2, 3]]),
  ([0, 0, 1, 2], [[0, 0, 1, 2], [0, 0, 0, 1], [0, 0, 1, 1], [0, 0, 0, 0], [0, 0, 1, 0]], [[0, 0, 1, 2], [0, 1, 2, 3]]),
  ([0, 1, 0, 0], [[0, 1, 0, 0], [0, 0, 0, 0]], [[0, 1, 0, 0], [0, 1, 1, 0], [0, 1, 0, 1], [0, 1, 2, 0], [0, 1, 1, 1], [0, 1, 1, 2], [0, 1, 2, 1], [0, 1, 2, 3], [0, 1, 2, 2]]),
  ([0, 1, 0, 1], [[0, 1, 0, 1], [0, 0, 0, 1], [0, 1, 0, 0], [0, 0, 0, 0]], [[0, 1, 0, 1], [0, 1, 1, 2], [0, 1, 2, 3]]),
  ([0, 1, 1, 0], [[0, 1, 1, 0], [0, 1, 0, 0], [0, 0, 0, 0]], [[0, 1, 1, 0], [0, 1, 2, 0], [0, 1, 1, 1], [0, 1, 2, 1], [0, 1, 1, 2], [0, 1, 2, 2], [0, 1, 2, 3]]),
  ([0, 1, 1, 1], [[0, 1, 1, 1], [0, 1, 1, 0], [0, 1, 0, 0], [0, 0, 0, 0]], [[0, 1, 1, 1], [0, 1, 2, 1], [0, 1, 1, 2], [0, 1, 2, 2], [0, 1, 2, 3]]),
  ([0, 1, 1, 2], [[0, 1, 1, 2], [0, 1, 0, 1], [0, 1, 1, 1], [0, 0, 0, 1], [0, 1, 0, 0], [0, 1, 1, 0], [0, 0, 0, 0]], [[0, 1, 1, 2], [0, 1, 2, 3]]),
  ([0, 1, 2, 0], [[0, 1, 2, 0], [0, 0, 1, 0], [0, 1, 1, 0], [0, 0, 0, 0], [0, 1, 0, 0]], [[0, 1, 2, 0], [0, 1, 2, 1], [0, 1, 2, 2], [0, 1, 2, 3]]),
  ([0, 1, 2, 1], [[0, 1, 2, 1], [0, 1, 1, 1], [0, 1, 2, 0], [0, 1, 1, 0], [0, 0, 1, 0], [0, 1, 0, 0], [0, 0, 0, 0]], [[0, 1, 2, 1], [0, 1, 2, 2], [0, 1, 2, 3]]),
  ([0, 1, 2, 2], [[0, 1, 2, 2], [0, 0, 1, 1], [0, 1, 2, 1], [0, 0, 1, 0], [0, 1, 1, 1], [0, 1, 2, 0], [0, 0, 0, 0], [0, 1, 1, 0], [0, 1, 0, 0]], [[0, 1, 2, 2], [0, 1, 2, 3]]),
  ([0, 1, 2, 3], [[0, 1, 2, 3], [0, 0, 1, 2], [0, 1, 1, 2], [0, 1, 2, 2], [0, 0, 0, 1], [0, 0, 1, 1], [0, 1, 0, 1], [0, 1, 1, 1], [0, 1, 2, 1], [0, 0, 0, 0], [0, 0, 1, 0], [0, 1, 0, 0], [0, 1, 1, 0], [0, 1, 2, 0]], [[0, 1, 2, 3]])]
noncomputable def hadN (p : List Nat) (up : Bool) : List (List Nat) := match hadT.find? fun r => r.1 == p with
  | some r => if up then r.2.2 else r.2.1
  | none => []
noncomputable def wayI (up : Bool) : Int := if up then 1 else -1
noncomputable def natsL (l : List (List Nat)) : List V := l.map fun x => .list (natsV x)
noncomputable def isV (o : Option V) (v : V) : Bool := match o with
  | some a => V.plain 4 a && V.plain 4 v && V.eqb 4 a v
  | none => false
theorem isV_ok {o : Option V} {v : V} (h : isV o v = true) : o = some v := by
  unfold isV at h
  split at h
  · simp only [Bool.and_eq_true] at h
    exact congrArg some ((eqb_iff 4 _ _ h.1.1 h.1.2).mp h.2)
  · cases h
noncomputable def rEnds1 : List V → Option V
  | [a] => rEnds [a]
  | _ => none
noncomputable def rHeads1 : List V → Option V
  | [a] => rHeads [a]
  | _ => none
noncomputable def rMoved1 : List V → Option V
  | [a, b] => runF (fun f vs => if f = 11 then rEnds1 vs else none) co_law_moved 5 [a, b]
  | _ => none
noncomputable def rHad1 : List V → Option V
  | [a, b] => runF (fun f vs => if f = 14 then rMoved1 vs else none) co_law_had 3 [a, b]
  | _ => none
noncomputable def runChk (p : List Nat) : Bool := isV (rEnds1 [.list (natsV p)]) (.list (natsV (endsN p))) && isV (rHeads1 [.list (natsV p)]) (.list (intsV (headsI p))) && isV (rHad1 [.list (natsV p), .int (-1)]) (.list (natsL (hadN p false))) && isV (rHad1 [.list (natsV p), .int 1]) (.list (natsL (hadN p true)))
theorem run0 : runChk [0, 0, 0, 0] = true := by decide +kernel
theorem run1 : runChk [0, 0, 0, 1] = true := by decide +kernel
theorem run2 : runChk [0, 0, 1, 0] = true := by decide +kernel
theorem run3 : runChk [0, 0, 1, 1] = true := by decide +kernel
theorem run4 : runChk [0, 0, 1, 2] = true := by decide +kernel
theorem run5 : runChk [0, 1, 0, 0] = true := by decide +kernel
theorem run6 : runChk [0, 1, 0, 1] = true := by decide +kernel
theorem run7 : runChk [0, 1, 1, 0] = true := by decide +kernel
theorem run8 : runChk [0, 1, 1, 1] = true := by decide +kernel
theorem run9 : runChk [0, 1, 1, 2] = true := by decide +kernel
theorem run10 : runChk [0, 1, 2, 0] = true := by decide +kernel
theorem run11 : runChk [0, 1, 2, 1] = true := by decide +kernel
theorem run12 : runChk [0, 1, 2, 2] = true := by decide +kernel
theorem run13 : runChk [0, 1, 2, 3] = true := by decide +kernel
theorem runs_ok : pagesN.all runChk = true := pages_of run0 run1 run2 run3 run4 run5 run6 run7 run8 run9 run10 run11 run12 run13
structure RunsOk (p : List Nat) : Prop where
  ends : rEnds1 [.list (natsV p)] = some (.list (natsV (endsN p)))
  heads : rHeads1 [.list (natsV p)] = some (.list (intsV (headsI p)))
  had : ∀ up, rHad1 [.list (natsV p), .int (wayI up)] = some (.list (natsL (hadN p up)))
theorem runs {p : List Nat} (hp : p ∈ pagesN) : RunsOk p := by
  have h := List.all_eq_true.mp runs_ok p hp
  unfold runChk at h
  obtain ⟨h, h4⟩ := Bool.and_eq_true_iff.mp h
  obtain ⟨h, h3⟩ := Bool.and_eq_true_iff.mp h
  obtain ⟨h1, h2⟩ := Bool.and_eq_true_iff.mp h
  exact ⟨isV_ok h1, isV_ok h2, fun up => by cases up; exact isV_ok h3; exact isV_ok h4⟩
noncomputable def endsZ (e f : List Nat) : List Nat := List.zipWith (fun a b => if a ≤ b then a else b) e f
noncomputable def headsZ (e f : List Int) : List Int := List.zipWith (fun a b => if b ≤ a then a else b) e f
noncomputable def meetZ (e : List Nat) : List Nat := (List.range 4).map fun i => ((List.range i).map fun j => decide (i < e.getD j 0)).count true
noncomputable def joinS (j : List Nat) (h : Int) : List Nat := j ++ [if 0 ≤ h then j.getD h.toNat 0 + 1 else 0]
noncomputable def joinZ (h : List Int) : List Nat := h.foldl joinS []
noncomputable def meetN (p q : List Nat) : List Nat := meetZ (endsZ (endsN p) (endsN q))
noncomputable def joinN (p q : List Nat) : List Nat := joinZ (headsZ (headsI p) (headsI q))
theorem pairs_ok : (pagesN.all fun p => pagesN.all fun q => pagesN.contains (meetN p q) && (endsN (meetN p q) == endsZ (endsN p) (endsN q)) && pagesN.contains (joinN p q) && (headsI (joinN p q) == headsZ (headsI p) (headsI q))) = true := by decide +kernel
noncomputable def intsL (l : List (List Nat)) : List (List Int) := l.map fun x => x.map Int.ofNat
noncomputable def lstOk (A : List (List Nat)) : Bool := decide (0 < A.length ∧ A.length < 64) && A.all fun x => decide (x.length = 4)
noncomputable def sortOk (A B : List (List Nat)) : Bool := lstOk A && lstOk B && match pureSort (intsL A) with
  | some r => decide (pureSort (intsL B) = some r)
  | none => false
noncomputable def srtChk (p : List Nat) : Bool := pagesN.all fun q => sortOk ((hadN p false).filter fun x => (hadN q false).contains x) (hadN (meetN p q) false) && sortOk ((hadN p true).filter fun x => (hadN q true).contains x) (hadN (joinN p q) true)
theorem srt0 : srtChk [0, 0, 0, 0] = true := by decide +kernel
theorem srt1 : srtChk [0, 0, 0, 1] = true := by decide +kernel
theorem srt2 : srtChk [0, 0, 1, 0] = true := by decide +kernel
theorem srt3 : srtChk [0, 0, 1, 1] = true := by decide +kernel
theorem srt4 : srtChk [0, 0, 1, 2] = true := by decide +kernel
theorem srt5 : srtChk [0, 1, 0, 0] = true := by decide +kernel
theorem srt6 : srtChk [0, 1, 0, 1] = true := by decide +kernel
theorem srt7 : srtChk [0, 1, 1, 0] = true := by decide +kernel
theorem srt8 : srtChk [0, 1, 1, 1] = true := by decide +kernel
theorem srt9 : srtChk [0, 1, 1, 2] = true := by decide +kernel
theorem srt10 : srtChk [0, 1, 2, 0] = true := by decide +kernel
theorem srt11 : srtChk [0, 1, 2, 1] = true := by decide +kernel
theorem srt12 : srtChk [0, 1, 2, 2] = true := by decide +kernel
theorem srt13 : srtChk [0, 1, 2, 3] = true := by decide +kernel
theorem sorts_ok : pagesN.all srtChk = true := pages_of srt0 srt1 srt2 srt3 srt4 srt5 srt6 srt7 srt8 srt9 srt10 srt11 srt12 srt13
structure SortOk (A B : List (List Nat)) : Prop where
  a : lstOk A = true
  b : lstOk B = true
  eq : ∃ r, pureSort (intsL A) = some r ∧ pureSort (intsL B) = some r
theorem sort_of {A B : List (List Nat)} (h : sortOk A B = true) : SortOk A B := by
  unfold sortOk at h
  obtain ⟨h, h3⟩ := Bool.and_eq_true_iff.mp h
  obtain ⟨h1, h2⟩ := Bool.and_eq_true_iff.mp h
  refine ⟨h1, h2, ?_⟩
  split at h3
  · rename_i r hr
    exact ⟨r, hr, of_decide_eq_true h3⟩
  · cases h3
structure PairOk (p q : List Nat) : Prop where
  m : meetN p q ∈ pagesN
  me : endsN (meetN p q) = endsZ (endsN p) (endsN q)
  j : joinN p q ∈ pagesN
  je : headsI (joinN p q) = headsZ (headsI p) (headsI q)
  s : SortOk ((hadN p false).filter fun x => (hadN q false).contains x) (hadN (meetN p q) false)
  t : SortOk ((hadN p true).filter fun x => (hadN q true).contains x) (hadN (joinN p q) true)
theorem pair_facts {p q : List Nat} (hp : p ∈ pagesN) (hq : q ∈ pagesN) : PairOk p q := by
  have h := List.all_eq_true.mp (List.all_eq_true.mp pairs_ok p hp) q hq
  obtain ⟨h, h4⟩ := Bool.and_eq_true_iff.mp h
  obtain ⟨h, h3⟩ := Bool.and_eq_true_iff.mp h
  obtain ⟨h1, h2⟩ := Bool.and_eq_true_iff.mp h
  have k0 := List.all_eq_true.mp sorts_ok p hp
  unfold srtChk at k0
  have k := List.all_eq_true.mp k0 q hq
  obtain ⟨k1, k2⟩ := Bool.and_eq_true_iff.mp k
  exact ⟨List.contains_iff_mem.mp h1, eq_of_beq h2, List.contains_iff_mem.mp h3, eq_of_beq h4, sort_of k1, sort_of k2⟩
end Mine

-- part 80
namespace Mine
noncomputable def SpT : Nat → List V → V → Prop
  | 1, vs, r => ∃ z : Str, z.length ≤ 200 ∧ vs = [.str z] ∧ r = .str (stripF z)
  | 2, vs, r => ∃ ps : List (Bool × Str), (∀ p ∈ ps, PieceOk p) ∧ ps.length ≤ 8 ∧ vs = [.str (Txt.join (Str.ofString "") (ps.map (·.2)))] ∧ r = .bool (balF (ps.map (·.1)) 0)
  | 3, vs, r => ∃ a b : Int, vs = [.int a, .int b] ∧ r = .bool (decide (a ≤ b))
  | 4, vs, r => ∃ a b : Int, vs = [.int a, .int b] ∧ r = .bool (decide (b ≤ a))
  | 5, vs, r => ∃ a b : Int, vs = [.int a, .int b] ∧ r = .bool (decide (b < a))
  | 6, vs, r => ∃ a b : Int, vs = [.int a, .int b] ∧ r = .int (a + b)
  | 7, vs, r => ∃ l : List Bool, l.length ≤ 1000 ∧ vs = [.list (l.map .bool), .bool true] ∧ r = .int (l.count true : Nat)
  | 8, vs, r => ∃ (l : List V) (i : Int), vs = [.list l, .int i] ∧ idxV (.list l) (.int i) = some r
  | 9, vs, r => ∃ z : Str, z.cps.size ≤ 1000 ∧ vs = [.str z] ∧ r = (wsX z).v
  | 10, vs, r => ∃ a b c d : Nat, vs = [.list (natsV [a, b, c, d])] ∧ r = .list (natsV (pageN [a, b, c, d]))
  | 11, vs, r => rEnds1 vs = some r
  | 12, vs, r => rHeads1 vs = some r
  | 13, vs, r => ∃ p sizes : List Nat, p ∈ pagesN ∧ sizes.length = 4 ∧ vs = [.list (natsV p), .list (natsV sizes)] ∧ r = .list (tblV (tabF sizes (endsN p)))
  | 14, vs, r => rMoved1 vs = some r
  | 15, vs, r => rHad1 vs = some r
  | 16, vs, r => ∃ p tells : List Nat, p ∈ pagesN ∧ tells.length = 4 ∧ vs = [.list (natsV p), .list (natsV tells)] ∧ r = .list ((linesF p tells).map .str)
  | 17, vs, r => ∃ p tells : List Nat, p ∈ pagesN ∧ vs = [.list ((linesF p tells).map .str)] ∧ r = .list (intsV (headsI p))
  | 18, vs, r => ∃ p tells : List Nat, p ∈ pagesN ∧ tells.length = 4 ∧ vs = [.list (natsV p), .list (natsV tells)] ∧ r = .list (natsV (endsN p))
  | 19, vs, r => ∃ x : Nat, x < 262144 ∧ vs = [.int x] ∧ r = .list (natsV (figs x))
  | 31, vs, r => ∃ x : Wx, x.ok ∧ vs = [x.v] ∧ r = .int (lngF x)
  | 32, vs, r => ∃ (x : Wx) (ts : Nat), x.ok ∧ (1 ≤ ts ∧ ts ≤ 5000) ∧ vs = [x.v, .int ts] ∧ r = .int (indF x ts)
  | 33, vs, r => ∃ x y : Wx, x.ok ∧ y.ok ∧ vs = [x.v, y.v] ∧ r = .bool (lessF x y)
  | _, _, _ => False
noncomputable def rk (i : Nat) : Nat := if i = 2 ∨ i = 9 ∨ i = 13 ∨ i = 14 ∨ i = 16 ∨ i = 33 then 2 else if i = 15 ∨ i = 17 ∨ i = 18 then 3 else 1
noncomputable def SpK (k i : Nat) (vs : List V) (r : V) : Prop := rk i ≤ k ∧ SpT i vs r
section
variable {prog : Program} {w : World} {B : Heap} {C : Addr} {mg mb : Str → Option Value} {n k : Nat} {a : Addr} {pm cd doc : Value} {vs : List V} {r : V}
theorem k1 (H : SndAll prog w B C mg mb n (SpK k)) (F : FnAt B a (fdOf "_strip_quoted_realnames" pm cd doc)) (h : SpT 1 vs r) : Contract prog w B C (n + 1) a vs r := by
  obtain ⟨z, hz, rfl, rfl⟩ := h
  exact contract_of H F (sh_strip_quoted_realnames pm cd doc) rfl (vc_strip z hz)
theorem k2 (H : SndAll prog w B C mg mb n (SpK k)) (hk : 1 ≤ k) (F : FnAt B a (fdOf "_check_parenthesis" pm cd doc)) (h : SpT 2 vs r) : Contract prog w B C (n + 1) a vs r := by
  obtain ⟨ps, hp, hl, rfl, rfl⟩ := h
  have hev := (pieces_ev ps hp).1
  have hcp : (Txt.join (Str.ofString "") (ps.map (·.2))).cps.toList = catS (ps.map (·.2)) := join_cps _
  have hsl := strip_len _ (hcp ▸ hev)
  have hlen : (Txt.join (Str.ofString "") (ps.map (·.2))).length ≤ 200 := by
    have e1 : (Txt.join (Str.ofString "") (ps.map (·.2))).length = (catS (ps.map (·.2))).length := by rw [← hcp]; simp [Str.length]
    have : ∀ l : List (Bool × Str), (∀ p ∈ l, PieceOk p) → (catS (l.map (·.2))).length ≤ 4 * l.length := by
      intro l
      induction l with
      | nil => intro _; simp [catS]
      | cons p l ih =>
        intro h
        have h1 := piece_len (h p (List.mem_cons_self ..))
        have h2 := ih fun q hq => h q (List.mem_cons_of_mem _ hq)
        have e : catS ((p :: l).map (·.2)) = p.2.cps.toList ++ catS (l.map (·.2)) := by simp [catS]
        rw [e, List.length_append, List.length_cons]
        have : p.2.cps.toList.length = p.2.length := by simp [Str.length]
        omega
    have := this ps hp
    omega
  rw [← check_pieces ps hp]
  exact contract_of H F (sh_check_parenthesis pm cd doc) rfl (vc_check _ (by omega) ⟨hk, _, hlen, rfl, rfl⟩)
theorem k3 (H : SndAll prog w B C mg mb n (SpK k)) (F : FnAt B a (fdOf "le" pm cd doc)) (h : SpT 3 vs r) : Contract prog w B C (n + 1) a vs r := by
  obtain ⟨x, y, rfl, rfl⟩ := h
  exact contract_of H F (sh_le pm cd doc) rfl (vc_le x y)
theorem k4 (H : SndAll prog w B C mg mb n (SpK k)) (F : FnAt B a (fdOf "ge" pm cd doc)) (h : SpT 4 vs r) : Contract prog w B C (n + 1) a vs r := by
  obtain ⟨x, y, rfl, rfl⟩ := h
  exact contract_of H F (sh_ge pm cd doc) rfl (vc_ge x y)
theorem k5 (H : SndAll prog w B C mg mb n (SpK k)) (F : FnAt B a (fdOf "gt" pm cd doc)) (h : SpT 5 vs r) : Contract prog w B C (n + 1) a vs r := by
  obtain ⟨x, y, rfl, rfl⟩ := h
  exact contract_of H F (sh_gt pm cd doc) rfl (vc_gt x y)
theorem k6 (H : SndAll prog w B C mg mb n (SpK k)) (F : FnAt B a (fdOf "add" pm cd doc)) (h : SpT 6 vs r) : Contract prog w B C (n + 1) a vs r := by
  obtain ⟨x, y, rfl, rfl⟩ := h
  exact contract_of H F (sh_add pm cd doc) rfl (vc_add x y)
theorem k7 (H : SndAll prog w B C mg mb n (SpK k)) (F : FnAt B a (fdOf "countOf" pm cd doc)) (h : SpT 7 vs r) : Contract prog w B C (n + 1) a vs r := by
  obtain ⟨l, hl, rfl, rfl⟩ := h
  exact contract_of H F (sh_countOf pm cd doc) rfl (vc_count l hl)
theorem k8 (H : SndAll prog w B C mg mb n (SpK k)) (F : FnAt B a (fdOf "getitem" pm cd doc)) (h : SpT 8 vs r) : Contract prog w B C (n + 1) a vs r := by
  obtain ⟨l, i, rfl, hi⟩ := h
  exact contract_of H F (sh_getitem pm cd doc) rfl (vc_getitem hi)
theorem k10 (H : SndAll prog w B C mg mb n (SpK k)) (F : FnAt B a (fdOf "_law_page" pm cd doc)) (h : SpT 10 vs r) : Contract prog w B C (n + 1) a vs r := by
  obtain ⟨x, y, z, u, rfl, rfl⟩ := h
  exact contract_of H F (sh_law_page pm cd doc) rfl (vc_pageN x y z u)
theorem k11 (H : SndAll prog w B C mg mb n (SpK k)) (F : FnAt B a (fdOf "_law_ends" pm cd doc)) (h : SpT 11 vs r) : Contract prog w B C (n + 1) a vs r := by
  replace h : rEnds1 vs = some r := h
  unfold rEnds1 at h
  split at h
  · exact contract_of H F (sh_law_ends pm cd doc) rfl (runF_ok (call := call0) (fun f vs r h => by cases h) h)
  · cases h
theorem k12 (H : SndAll prog w B C mg mb n (SpK k)) (F : FnAt B a (fdOf "_law_heads" pm cd doc)) (h : SpT 12 vs r) : Contract prog w B C (n + 1) a vs r := by
  replace h : rHeads1 vs = some r := h
  unfold rHeads1 at h
  split at h
  · exact contract_of H F (sh_law_heads pm cd doc) rfl (runF_ok (call := call0) (fun f vs r h => by cases h) h)
  · cases h
theorem k13 (H : SndAll prog w B C mg mb n (SpK k)) (hk : 1 ≤ k) (F : FnAt B a (fdOf "_law_table" pm cd doc)) (h : SpT 13 vs r) : Contract prog w B C (n + 1) a vs r := by
  obtain ⟨p, sizes, hp, h4, rfl, rfl⟩ := h
  exact contract_of H F (sh_law_table pm cd doc) rfl (vc_table p sizes hp h4 ⟨hk, (runs hp).ends⟩)
theorem k14 (H : SndAll prog w B C mg mb n (SpK k)) (hk : 1 ≤ k) (F : FnAt B a (fdOf "_law_moved" pm cd doc)) (h : SpT 14 vs r) : Contract prog w B C (n + 1) a vs r := by
  replace h : rMoved1 vs = some r := h
  unfold rMoved1 at h
  split at h
  · refine contract_of H F (sh_law_moved pm cd doc) rfl (runF_ok (fun f vs r h => ?_) h)
    split at h
    · rename_i e; subst e; exact ⟨hk, h⟩
    · cases h
  · cases h
theorem k15 (H : SndAll prog w B C mg mb n (SpK k)) (hk : 2 ≤ k) (F : FnAt B a (fdOf "_law_had" pm cd doc)) (h : SpT 15 vs r) : Contract prog w B C (n + 1) a vs r := by
  replace h : rHad1 vs = some r := h
  unfold rHad1 at h
  split at h
  · refine contract_of H F (sh_law_had pm cd doc) rfl (runF_ok (fun f vs r h => ?_) h)
    split at h
    · rename_i e; subst e; exact ⟨hk, h⟩
    · cases h
  · cases h
theorem k16 (H : SndAll prog w B C mg mb n (SpK k)) (hk : 1 ≤ k) (F : FnAt B a (fdOf "_law_lines" pm cd doc)) (h : SpT 16 vs r) : Contract prog w B C (n + 1) a vs r := by
  obtain ⟨p, tells, hp, h4, rfl, rfl⟩ := h
  exact contract_of H F (sh_law_lines pm cd doc) rfl (vc_lines p tells hp h4 ⟨hk, (runs hp).heads⟩)
theorem k17 (H : SndAll prog w B C mg mb n (SpK k)) (hk : 2 ≤ k) (F : FnAt B a (fdOf "_law_nanny" pm cd doc)) (h : SpT 17 vs r) : Contract prog w B C (n + 1) a vs r := by
  obtain ⟨p, tells, hp, rfl, rfl⟩ := h
  obtain ⟨o1, o2⟩ := lines_ok p tells hp
  rw [← lines_heads p tells hp]
  exact contract_of H F (sh_law_nanny pm cd doc) rfl (vc_nanny (linesF p tells) rfl (fun z hz => ⟨hk, z, o1 z hz, rfl, rfl⟩) fun x hx y hy => ⟨hk, x, y, o2 x hx, o2 y hy, rfl, rfl⟩)
theorem k18 (H : SndAll prog w B C mg mb n (SpK k)) (hk : 2 ≤ k) (F : FnAt B a (fdOf "_law_mail" pm cd doc)) (h : SpT 18 vs r) : Contract prog w B C (n + 1) a vs r := by
  obtain ⟨p, tells, hp, h4, rfl, rfl⟩ := h
  exact contract_of H F (sh_law_mail pm cd doc) rfl (vc_mail (fun ps h1 h2 => ⟨hk, ps, h1, h2, rfl, rfl⟩) p tells hp h4)
theorem k19 (H : SndAll prog w B C mg mb n (SpK k)) (F : FnAt B a (fdOf "_law_figures" pm cd doc)) (h : SpT 19 vs r) : Contract prog w B C (n + 1) a vs r := by
  obtain ⟨x, hx, rfl, rfl⟩ := h
  rw [← ints_nats]
  exact contract_of H F (sh_law_figures pm cd doc) rfl (vc_figures x hx)
theorem k31 (H : SndAll prog w B C mg mb n (SpK k)) (F : FnAt B a (mdOf "longest_run_of_spaces" pm cd doc)) (h : SpT 31 vs r) : Contract prog w B C (n + 1) a vs r := by
  obtain ⟨x, hx, rfl, rfl⟩ := h
  exact contract_of H F (sh_longest_run_of_spaces pm cd doc) rfl (vc_long x hx)
theorem k32 (H : SndAll prog w B C mg mb n (SpK k)) (F : FnAt B a (mdOf "indent_level" pm cd doc)) (h : SpT 32 vs r) : Contract prog w B C (n + 1) a vs r := by
  obtain ⟨x, ts, hx, hts, rfl, rfl⟩ := h
  exact contract_of H F (sh_indent_level pm cd doc) rfl (vc_ind x hx ts hts)
theorem k33 (H : SndAll prog w B C mg mb n (SpK k)) (hk : 1 ≤ k) (F : FnAt B a (mdOf "less" pm cd doc)) (h : SpT 33 vs r) : Contract prog w B C (n + 1) a vs r := by
  obtain ⟨x, y, hx, hy, rfl, rfl⟩ := h
  exact contract_of H F (sh_less pm cd doc) rfl (vc_less x y hx hy ⟨⟨hk, x, hx, rfl, rfl⟩, ⟨hk, y, hy, rfl, rfl⟩, fun ts hts => ⟨hk, x, ts, hx, hts, rfl, rfl⟩, fun ts hts => ⟨hk, y, ts, hy, hts, rfl, rfl⟩⟩)
end
end Mine

-- part 81
namespace Mine
noncomputable def fnNames : List Str := ["_strip_quoted_realnames", "_check_parenthesis", "le", "ge", "gt", "add", "countOf", "getitem", "_law_page", "_law_ends", "_law_heads", "_law_table", "_law_moved", "_law_had", "_law_lines", "_law_nanny", "_law_mail", "_law_figures", "_law_read", "_iter_escaped_chars", "_parse_varint"]
structure Wd (prog : Program) (w : World) (B : Heap) (C N : Addr) (mN mg mb : Str → Option Value) (fI fL fD fS : Addr) : Prop where
  base : BaseF B mg mb
  fns : Fns B mg fnNames
  ws : WsAt B C N mN fI fL fD fS
  cls : mg "Whitespace" = some (.ref C)
  callee : Callee prog w B C
  hS : ClsStr prog w B C "S" " "
  hT : ClsStr prog w B C "T" "\t"
  aI : ∃ pm cd doc, FnAt B fI (mdOf "__init__" pm cd doc)
  aL : ∃ pm cd doc, FnAt B fL (mdOf "longest_run_of_spaces" pm cd doc)
  aD : ∃ pm cd doc, FnAt B fD (mdOf "indent_level" pm cd doc)
  aS : ∃ pm cd doc, FnAt B fS (mdOf "less" pm cd doc)
theorem glo_fn : ∀ p ∈ glo.fn, p.1 = "Whitespace" ∨ p.1 ∈ fnNames := by decide +kernel
theorem glo_me : ∀ p ∈ glo.me, p = (("longest_run_of_spaces" : Str), 31) ∨ p = (("indent_level" : Str), 32) ∨ p = (("less" : Str), 33) := by decide +kernel
section
variable {prog : Program} {w : World} {B : Heap} {C N : Addr} {mN mg mb : Str → Option Value} {fI fL fD fS : Addr} {n k : Nat} {Sp : Nat → List V → V → Prop}
theorem Wd.at_ (W : Wd prog w B C N mN mg mb fI fL fD fS) {x : Str} (hx : x ∈ fnNames) {a : Addr} (ha : mg x = some (.ref a)) : ∃ pm cd doc, FnAt B a (fdOf x pm cd doc) := by
  obtain ⟨a', pm, cd, doc, h1, h2⟩ := W.fns x hx
  rw [ha] at h1; cases h1
  exact ⟨pm, cd, doc, h2⟩
theorem snd_mk (W : Wd prog w B C N mN mg mb fI fL fD fS) (hC : ∀ f i a, (f, i) ∈ glo.fn → mg f = some (.ref a) → ∀ vs r, Sp i vs r → Contract prog w B C n a vs r)
    (hL : ∀ vs r, Sp 31 vs r → Contract prog w B C n fL vs r) (hD : ∀ vs r, Sp 32 vs r → Contract prog w B C n fD vs r) (hS : ∀ vs r, Sp 33 vs r → Contract prog w B C n fS vs r) : SndAll prog w B C mg mb n Sp := by
  refine ⟨⟨W.base, fun f i hf => ?_, fun m i hm => ?_, ws_attr W.ws⟩, fun a ha => snd_sorted W.base a ha, ?_⟩
  · have hm := mem_of_lookup hf
    rcases glo_fn _ hm with h | h
    · have h : f = "Whitespace" := h
      subst h
      exact ⟨C, W.cls, W.callee, hC _ _ _ hm W.cls⟩
    · obtain ⟨a, pm, cd, doc, h1, h2⟩ := W.fns f h
      exact ⟨a, h1, callee_fn h2, hC _ _ _ hm h1⟩
  · rcases glo_me _ (mem_of_lookup hm) with h | h | h
    · cases h
      obtain ⟨_, _, _, F⟩ := W.aL
      exact ⟨fL, ws_meth W.ws W.ws.l (by simp) lk_long (.inl rfl), callee_fn F, hL⟩
    · cases h
      obtain ⟨_, _, _, F⟩ := W.aD
      exact ⟨fD, ws_meth W.ws W.ws.d (by simp) lk_ind (.inr (.inl rfl)), callee_fn F, hD⟩
    · cases h
      obtain ⟨_, _, _, F⟩ := W.aS
      exact ⟨fS, ws_meth W.ws W.ws.s (by simp) lk_less (.inr (.inr rfl)), callee_fn F, hS⟩
  · obtain ⟨a, pm, cd, doc, h1, h2⟩ := W.fns "_iter_escaped_chars" (by decide)
    exact ⟨a, h1, callee_fn h2, esc_ok W.base h2⟩
theorem rk_pos (i : Nat) : 1 ≤ rk i := by
  unfold rk
  split
  · omega
  · split <;> omega
theorem sp0 {i : Nat} {vs : List V} {r : V} (h : SpK 0 i vs r) : False := by
  have := rk_pos i
  have := h.1
  omega
theorem lev0 (W : Wd prog w B C N mN mg mb fI fL fD fS) : SndAll prog w B C mg mb 0 (SpK 0) :=
  snd_mk W (fun _ _ _ _ _ _ _ h => (sp0 h).elim) (fun _ _ h => (sp0 h).elim) (fun _ _ h => (sp0 h).elim) (fun _ _ h => (sp0 h).elim)
theorem con1 (W : Wd prog w B C N mN mg mb fI fL fD fS) (H : SndAll prog w B C mg mb n (SpK k)) (f : Str) (i : Nat) (a : Addr) (hm : (f, i) ∈ glo.fn) (ha : mg f = some (.ref a)) (vs : List V) (r : V) (h : SpK 1 i vs r) : Contract prog w B C (n + 1) a vs r := by
  obtain ⟨h0, h⟩ := h
  simp only [glo, List.mem_cons, Prod.mk.injEq, List.not_mem_nil, or_false] at hm
  rcases hm with ⟨rfl, rfl⟩ | ⟨rfl, rfl⟩ | ⟨rfl, rfl⟩ | ⟨rfl, rfl⟩ | ⟨rfl, rfl⟩ | ⟨rfl, rfl⟩ | ⟨rfl, rfl⟩ | ⟨rfl, rfl⟩ | ⟨rfl, rfl⟩ | ⟨rfl, rfl⟩ | ⟨rfl, rfl⟩ | ⟨rfl, rfl⟩ | ⟨rfl, rfl⟩ | ⟨rfl, rfl⟩ | ⟨rfl, rfl⟩ | ⟨rfl, rfl⟩ | ⟨rfl, rfl⟩ | ⟨rfl, rfl⟩ | ⟨rfl, rfl⟩ | ⟨rfl, rfl⟩ <;> first
    | exact absurd h0 (by decide)
    | exact h.elim
    | (obtain ⟨pm, cd, doc, F⟩ := W.at_ (by decide) ha
       first
         | exact k1 H F h
         | exact k3 H F h
         | exact k4 H F h
         | exact k5 H F h
         | exact k6 H F h
         | exact k7 H F h
         | exact k8 H F h
         | exact k10 H F h
         | exact k11 H F h
         | exact k12 H F h
         | exact k19 H F h)
theorem lev1 (W : Wd prog w B C N mN mg mb fI fL fD fS) : SndAll prog w B C mg mb 1 (SpK 1) := by
  have H := lev0 W
  refine snd_mk W (con1 W H) (fun vs r h => ?_) (fun vs r h => ?_) (fun vs r h => absurd h.1 (by decide))
  · obtain ⟨_, _, _, F⟩ := W.aL
    exact k31 H F h.2
  · obtain ⟨_, _, _, F⟩ := W.aD
    exact k32 H F h.2
theorem con2 (W : Wd prog w B C N mN mg mb fI fL fD fS) (f : Str) (i : Nat) (a : Addr) (hm : (f, i) ∈ glo.fn) (ha : mg f = some (.ref a)) (vs : List V) (r : V) (h : SpK 2 i vs r) : Contract prog w B C 2 a vs r := by
  have H := lev1 W
  by_cases h1 : rk i ≤ 1
  · exact con1 W H f i a hm ha vs r ⟨h1, h.2⟩
  obtain ⟨h0, h⟩ := h
  simp only [glo, List.mem_cons, Prod.mk.injEq, List.not_mem_nil, or_false] at hm
  rcases hm with ⟨rfl, rfl⟩ | ⟨rfl, rfl⟩ | ⟨rfl, rfl⟩ | ⟨rfl, rfl⟩ | ⟨rfl, rfl⟩ | ⟨rfl, rfl⟩ | ⟨rfl, rfl⟩ | ⟨rfl, rfl⟩ | ⟨rfl, rfl⟩ | ⟨rfl, rfl⟩ | ⟨rfl, rfl⟩ | ⟨rfl, rfl⟩ | ⟨rfl, rfl⟩ | ⟨rfl, rfl⟩ | ⟨rfl, rfl⟩ | ⟨rfl, rfl⟩ | ⟨rfl, rfl⟩ | ⟨rfl, rfl⟩ | ⟨rfl, rfl⟩ | ⟨rfl, rfl⟩ <;> first
    | exact absurd (by decide) h1
    | exact absurd h0 (by decide)
    | (obtain ⟨z, hz, rfl, rfl⟩ := h
       rw [W.cls] at ha; cases ha
       obtain ⟨_, _, _, F⟩ := W.aI
       exact ws_make (lev0 W) W.ws F W.cls W.hS W.hT hz)
    | (obtain ⟨pm, cd, doc, F⟩ := W.at_ (by decide) ha
       first
         | exact k2 H (by decide) F h
         | exact k13 H (by decide) F h
         | exact k14 H (by decide) F h
         | exact k16 H (by decide) F h)
theorem lev2 (W : Wd prog w B C N mN mg mb fI fL fD fS) : SndAll prog w B C mg mb 2 (SpK 2) := by
  have H := lev1 W
  refine snd_mk W (con2 W) (fun vs r h => ?_) (fun vs r h => ?_) (fun vs r h => ?_)
  · obtain ⟨_, _, _, F⟩ := W.aL
    exact k31 H F h.2
  · obtain ⟨_, _, _, F⟩ := W.aD
    exact k32 H F h.2
  · obtain ⟨_, _, _, F⟩ := W.aS
    exact k33 H (by decide) F h.2
theorem con3 (W : Wd prog w B C N mN mg mb fI fL fD fS) (f : Str) (i : Nat) (a : Addr) (hm : (f, i) ∈ glo.fn) (ha : mg f = some (.ref a)) (vs : List V) (r : V) (h : SpK 3 i vs r) : Contract prog w B C 3 a vs r := by
  have H := lev2 W
  by_cases h1 : rk i ≤ 2
  · exact (con2 W f i a hm ha vs r ⟨h1, h.2⟩).mono (by decide)
  obtain ⟨h0, h⟩ := h
  simp only [glo, List.mem_cons, Prod.mk.injEq, List.not_mem_nil, or_false] at hm
  rcases hm with ⟨rfl, rfl⟩ | ⟨rfl, rfl⟩ | ⟨rfl, rfl⟩ | ⟨rfl, rfl⟩ | ⟨rfl, rfl⟩ | ⟨rfl, rfl⟩ | ⟨rfl, rfl⟩ | ⟨rfl, rfl⟩ | ⟨rfl, rfl⟩ | ⟨rfl, rfl⟩ | ⟨rfl, rfl⟩ | ⟨rfl, rfl⟩ | ⟨rfl, rfl⟩ | ⟨rfl, rfl⟩ | ⟨rfl, rfl⟩ | ⟨rfl, rfl⟩ | ⟨rfl, rfl⟩ | ⟨rfl, rfl⟩ | ⟨rfl, rfl⟩ | ⟨rfl, rfl⟩ <;> first
    | exact absurd (by decide) h1
    | (obtain ⟨pm, cd, doc, F⟩ := W.at_ (by decide) ha
       first
         | exact k15 H (by decide) F h
         | exact k17 H (by decide) F h
         | exact k18 H (by decide) F h)
theorem lev3 (W : Wd prog w B C N mN mg mb fI fL fD fS) : SndAll prog w B C mg mb 3 (SpK 3) := by
  have H := lev2 W
  refine snd_mk W (con3 W) (fun vs r h => ?_) (fun vs r h => ?_) (fun vs r h => ?_)
  · obtain ⟨_, _, _, F⟩ := W.aL
    exact k31 H F h.2
  · obtain ⟨_, _, _, F⟩ := W.aD
    exact k32 H F h.2
  · obtain ⟨_, _, _, F⟩ := W.aS
    exact k33 H (by decide) F h.2
theorem read_at (W : Wd prog w B C N mN mg mb fI fL fD fS) {a : Addr} (ha : mg "_law_read" = some (.ref a)) (tbl : List (Nat × Nat)) (htl : tbl.length ≤ 4) (hb : ∀ p ∈ tbl, p.1 < 262144 ∧ p.2 < 262144) : ReadOk prog w B C 2 a tbl := by
  obtain ⟨_, _, _, F⟩ := W.at_ (by decide) ha
  obtain ⟨fv, _, _, _, hv, Fv⟩ := W.fns "_parse_varint" (by decide)
  have hol := oct_len tbl
  exact read_ok (n := 0) (oct := octF tbl) (lev1 W) F Fv hv (vc_read tbl htl fun p hp => ⟨⟨by decide, p.1, (hb p hp).1, rfl, rfl⟩, ⟨by decide, p.2, (hb p hp).2, rfl, rfl⟩⟩) (oct_lt tbl) (by omega) htl
    (reads_to _ tbl 0 hb (rest_bytes _ (oct_lt tbl)))
end
end Mine

-- part 82
namespace Mine
theorem plain_nats (n : Nat) (l : List Nat) : V.plain (n + 1) (.list (natsV l)) = true := by
  unfold V.plain
  rw [List.all_eq_true]
  intro x hx
  obtain ⟨y, _, rfl⟩ := List.mem_map.mp hx
  cases n <;> rfl
theorem plain_ints (n : Nat) (l : List Int) : V.plain (n + 1) (.list (intsV l)) = true := by
  unfold V.plain
  rw [List.all_eq_true]
  intro x hx
  obtain ⟨y, _, rfl⟩ := List.mem_map.mp hx
  cases n <;> rfl
theorem plain_tbl (l : List (Nat × Nat)) : V.plain 4 (.list (tblV l)) = true := by
  unfold V.plain
  rw [List.all_eq_true]
  intro x hx
  obtain ⟨y, _, rfl⟩ := List.mem_map.mp hx
  rfl
theorem ne_same {P : Bool → Prop} {a : List V} (hp : V.plain 4 (.list a) = true) (h : P false) : (∃ r, cmpV .NotEq (.list a) (.list a) r) ∧ ∀ r, cmpV .NotEq (.list a) (.list a) r → P r :=
  c_neL hp hp fun r hr => by
    cases r
    · exact h
    · exact absurd rfl (hr.mp rfl)
noncomputable def baseL : List Int := [46255, 607, 8967, 73, 115717, 39, 3582, 156]
noncomputable def tk (L : List Int) (k : Nat) : Nat := ((baseL.getD k 0 + (pickL L (some (k : Int)) (some 40) (some 8)).sum).fmod (10 ^ 9)).toNat
noncomputable def tks (L : List Int) : List Nat := [tk L 0, tk L 1, tk L 2, tk L 3, tk L 4, tk L 5, tk L 6, tk L 7]
noncomputable def fst4 (L : List Int) : List Nat := [tk L 0, tk L 2, tk L 4, tk L 6]
noncomputable def snd4 (L : List Int) : List Nat := [tk L 1, tk L 3, tk L 5, tk L 7]
noncomputable def szN (x : Nat) : Nat := 1 + x / 1152 % 5000
theorem nums_ints : ∀ (l : List Int), numsV (intsV l) = some l
  | [] => rfl
  | x :: l => by
    show (numsV (intsV l)).map (x :: ·) = _
    rw [nums_ints l]; rfl
theorem slice_ints {l : List Int} (h : l.length ≤ 1000) (lo hi st : Option Int) (hs : st ≠ some 0) : sliceV (.list (intsV l)) lo hi st = some (.list (intsV (pickL l lo hi st))) := by
  show (if st ≠ some 0 ∧ (intsV l).length ≤ 1048576 then some (V.list (pickL (intsV l) lo hi st)) else none) = _
  rw [if_pos ⟨hs, by simp only [intsV, List.length_map]; omega⟩]
  unfold intsV
  rw [pick_map]
theorem pick_len {α : Type} (l : List α) (lo hi st : Option Int) : (pickL l lo hi st).length ≤ (sliceRange (sliceBounds lo hi st l.length).1 (sliceBounds lo hi st l.length).2.1 (sliceBounds lo hi st l.length).2.2).length := List.length_filterMap_le ..
theorem len8 (L : List Int) (k : Nat) (hk : k < 8) : (pickL L (some (k : Int)) (some 40) (some 8)).length ≤ 1000 := by
  refine Nat.le_trans (pick_len ..) ?_
  unfold sliceBounds sliceRange
  simp only [Option.getD_some, show (8 : Int) > 0 by decide, if_true, List.length_map, List.length_range]
  repeat' split
  all_goals omega
theorem tk_val (L : List Int) (k : Nat) : ((tk L k : Nat) : Int) = (baseL.getD k 0 + (pickL L (some (k : Int)) (some 40) (some 8)).sum).fmod (10 ^ 9) := by
  unfold tk
  exact Int.toNat_of_nonneg (Int.fmod_nonneg_of_pos _ (by decide))
noncomputable abbrev coA : List CS := co_law.take 13
noncomputable abbrev coB : List CS := co_law.drop 15
section
variable {Sp : Nat → List V → V → Prop}
theorem slice_2 (t0 t1 t2 t3 t4 t5 t6 t7 : Nat) : pickL [t0, t1, t2, t3, t4, t5, t6, t7] (some 0) none (some 2) = [t0, t2, t4, t6] ∧ pickL [t0, t1, t2, t3, t4, t5, t6, t7] (some 1) none (some 2) = [t1, t3, t5, t7] := by
  constructor
  · rw [pick_idx 8 [0, 2, 4, 6] rfl (by decide +kernel)]; rfl
  · rw [pick_idx 8 [1, 3, 5, 7] rfl (by decide +kernel)]; rfl
noncomputable def oneN (L : List Int) : List Nat := pageN (fst4 L)
noncomputable def twoN (L : List Int) : List Nat := pageN (snd4 L)
noncomputable def sizesN (L : List Int) : List Nat := (fst4 L).map szN
noncomputable abbrev lawA (L : List Int) (t1 t2 : Slot) : List Slot := [.fro (.list (intsV L)), .fro (.list (intsV baseL)), .fro (.list (natsV (tks L))), .fro (.list (natsV (fst4 L))), .fro (.list (natsV (snd4 L))), .fro (.list (natsV (oneN L))), .fro (.list (natsV (twoN L))), .fro (.list (natsV (sizesN L))),
  .fro (.list (natsV (endsN (oneN L)))), .fro (.list (natsV (endsN (twoN L)))), .fro (.list (intsV (headsI (oneN L)))), .fro (.list (intsV (headsI (twoN L)))), t1, t2, .undef, .undef, .undef, .undef, .undef, .undef, .undef, .undef]
theorem vc_A1 (L : List Int) (hL : L.length ≤ 63) (rest : List CS) (R : Out → Prop) (h : wpSs Sp rest ([.fro (.list (intsV L)), .fro (.list (intsV baseL)), .fro (.list (natsV (tks L)))] ++ List.replicate 19 Slot.undef) R) :
    wpSs Sp (co_law.take 2 ++ rest) ([.fro (.list (intsV L))] ++ List.replicate 21 Slot.undef) R := by
  show wpSs Sp (_ :: _ :: rest) _ R
  refine s_cons (s_assign (e_lst (es_cons (e_int (es_cons (e_int (es_cons (e_int (es_cons (e_int (es_cons (e_int (es_cons (e_int (es_cons (e_int (es_cons (e_int (es_nil ?_))))))))))))))))))
  )
  refine s_cons (s_assign (e_comp (e_range (e_int (e_int (e_int ⟨0, 8, 1, rfl, rfl, rfl, by decide, _, rfl, ?_⟩))))))
  refine cl_map (fun (n : Nat) => V.int n) (fun (k : Nat) => V.int (tk L k : Nat)) [0, 1, 2, 3, 4, 5, 6, 7] [] _ (fun k hk R hR => cl_one ?_) ?_
  · have hk8 : k < 8 := by simp at hk; omega
    refine e_bin (e_bin (e_subv rfl (by simp [slotV]) (e_fro rfl (x_get rfl (ints_get (H := baseL) (i := k) hk8 (by decide)) (e_sum (e_slcv rfl (by simp [slotV]) (o_some (e_fro rfl (o_some (e_int (o_some (e_int ?_)))))))))))
    )
    refine ⟨_, _, _, _, _, rfl, rfl, rfl, rfl, slice_ints (by omega) _ _ _ (by decide), ?_⟩
    refine ⟨_, _, rfl, nums_ints _, by have := len8 L k hk8; simp only [intsV, List.length_map]; omega, ?_⟩
    refine b_add (e_bin (e_int (e_int ⟨_, (if_pos (by decide) : (if (0 : Int) ≤ 9 ∧ (9 : Int) ≤ 1000000 ∧ (10 : Int).natAbs < 2 ^ 64 then some (V.int ((10 : Int) ^ (9 : Int).toNat)) else none) = some (V.int ((10 : Int) ^ (9 : Int).toNat))), ?_⟩)))
    refine b_mod (by decide) ?_
    rw [show ((10 : Int) ^ (9 : Int).toNat) = 10 ^ 9 from rfl, ← tk_val]
    exact hR
  · exact h
end
end Mine

-- part 83
namespace Mine
theorem one_in (L : List Int) : oneN L ∈ pagesN := page_in _
theorem two_in (L : List Int) : twoN L ∈ pagesN := page_in _
theorem vc_A2 (L : List Int) (rest : List CS) (R : Out → Prop) (h : wpSs (SpK 3) rest ([.fro (.list (intsV L)), .fro (.list (intsV baseL)), .fro (.list (natsV (tks L))), .fro (.list (natsV (fst4 L))), .fro (.list (natsV (snd4 L))), .fro (.list (natsV (oneN L))), .fro (.list (natsV (twoN L))), .fro (.list (natsV (sizesN L)))] ++ List.replicate 14 Slot.undef) R) :
    wpSs (SpK 3) ((co_law.drop 2).take 5 ++ rest) ([.fro (.list (intsV L)), .fro (.list (intsV baseL)), .fro (.list (natsV (tks L)))] ++ List.replicate 19 Slot.undef) R := by
  show wpSs (SpK 3) (_ :: _ :: _ :: _ :: _ :: rest) _ R
  obtain ⟨s1, s2⟩ := slice_2 (tk L 0) (tk L 1) (tk L 2) (tk L 3) (tk L 4) (tk L 5) (tk L 6) (tk L 7)
  have q1 : sliceV (.list (natsV (tks L))) (some 0) none (some 2) = some (.list (natsV (fst4 L))) := by
    rw [slice_nats (by simp [tks]) _ _ _ (by decide)]
    exact congrArg (fun l => some (V.list (natsV l))) s1
  have q2 : sliceV (.list (natsV (tks L))) (some 1) none (some 2) = some (.list (natsV (snd4 L))) := by
    rw [slice_nats (by simp [tks]) _ _ _ (by decide)]
    exact congrArg (fun l => some (V.list (natsV l))) s2
  refine s_cons (s_assign (e_slcv rfl (by simp [slotV]) (o_some (e_int (o_none (o_some (e_int ⟨_, _, _, _, _, rfl, rfl, rfl, rfl, q1, ?_⟩)))))))
  refine s_cons (s_assign (e_slcv rfl (by simp [slotV]) (o_some (e_int (o_none (o_some (e_int ⟨_, _, _, _, _, rfl, rfl, rfl, rfl, q2, ?_⟩)))))))
  refine s_cons (s_assign (e_call (es_cons (e_fro rfl (es_nil ⟨.list (natsV (oneN L)), ⟨by decide, _, _, _, _, rfl, rfl⟩, ?_⟩)))))
  refine s_cons (s_assign (e_call (es_cons (e_fro rfl (es_nil ⟨.list (natsV (twoN L)), ⟨by decide, _, _, _, _, rfl, rfl⟩, ?_⟩)))))
  refine s_cons (s_assign (e_comp (e_fro rfl ⟨_, iterV_list (by simp [natsV, fst4]), ?_⟩)))
  refine cl_map (fun (n : Nat) => V.int n) (fun (x : Nat) => V.int (szN x : Nat)) (fst4 L) [] _ (fun x _ R hR => cl_one ?_) ?_
  · refine e_bin (e_int (e_bin (e_bin (e_fro rfl (e_int (b_div (by decide) ?_))))))
    rw [show (1152 : Int) = ((1152 : Nat) : Int) from rfl, fdiv_nat]
    refine e_int (b_mod (by decide) ?_)
    rw [show (5000 : Int) = ((5000 : Nat) : Int) from rfl, fmod_nat]
    refine b_add ?_
    have e : (1 : Int) + ((x / 1152 % 5000 : Nat) : Int) = ((szN x : Nat) : Int) := by unfold szN; omega
    rw [e]
    exact hR
  · have e : [] ++ (fst4 L).map (fun (x : Nat) => V.int (szN x : Nat)) = natsV (sizesN L) := by unfold natsV sizesN; rw [List.map_map]; rfl
    rw [e]
    exact h
theorem vc_A3 (L : List Int) (rest : List CS) (R : Out → Prop) (h : wpSs (SpK 3) rest (lawA L .undef .undef) R) :
    wpSs (SpK 3) ((co_law.drop 7).take 6 ++ rest) ([.fro (.list (intsV L)), .fro (.list (intsV baseL)), .fro (.list (natsV (tks L))), .fro (.list (natsV (fst4 L))), .fro (.list (natsV (snd4 L))), .fro (.list (natsV (oneN L))), .fro (.list (natsV (twoN L))), .fro (.list (natsV (sizesN L)))] ++ List.replicate 14 Slot.undef) R := by
  show wpSs (SpK 3) (_ :: _ :: _ :: _ :: _ :: _ :: rest) _ R
  have p1 := one_in L
  have p2 := two_in L
  have r1 := runs p1
  have r2 := runs p2
  refine s_cons (s_assign (e_call (es_cons (e_fro rfl (es_cons (e_fro rfl (es_nil ⟨.list (natsV (endsN (oneN L))), ⟨by decide, oneN L, fst4 L, p1, rfl, rfl, rfl⟩, ?_⟩)))))))
  refine s_cons (s_assign (e_call (es_cons (e_fro rfl (es_cons (e_fro rfl (es_nil ⟨.list (natsV (endsN (twoN L))), ⟨by decide, twoN L, snd4 L, p2, rfl, rfl, rfl⟩, ?_⟩)))))))
  refine s_cons (s_ite (e_bop (e_cmp (e_fro rfl (e_call (es_cons (e_fro rfl (es_nil ⟨.list (natsV (endsN (oneN L))), ⟨by decide, r1.ends⟩, ne_same (plain_nats 3 _) (p_or0 rfl ?_)⟩))))))))
  refine e_cmp (e_fro rfl (e_call (es_cons (e_fro rfl (es_nil ⟨.list (natsV (endsN (twoN L))), ⟨by decide, r2.ends⟩, ne_same (plain_nats 3 _) (o_last (i_false rfl (s_nil ?_)))⟩)))))
  refine s_cons (s_assign (e_call (es_cons (e_call (es_cons (e_fro rfl (es_cons (e_fro rfl (es_nil ⟨.list ((linesF (oneN L) (fst4 L)).map .str), ⟨by decide, oneN L, fst4 L, p1, rfl, rfl, rfl⟩, es_nil ⟨.list (intsV (headsI (oneN L))), ⟨by decide, oneN L, fst4 L, p1, rfl, rfl⟩, ?_⟩⟩)))))))))
  refine s_cons (s_assign (e_call (es_cons (e_call (es_cons (e_fro rfl (es_cons (e_fro rfl (es_nil ⟨.list ((linesF (twoN L) (snd4 L)).map .str), ⟨by decide, twoN L, snd4 L, p2, rfl, rfl, rfl⟩, es_nil ⟨.list (intsV (headsI (twoN L))), ⟨by decide, twoN L, snd4 L, p2, rfl, rfl⟩, ?_⟩⟩)))))))))
  refine s_cons (s_ite (e_bop (e_cmp (e_fro rfl (e_call (es_cons (e_fro rfl (es_nil ⟨.list (intsV (headsI (oneN L))), ⟨by decide, r1.heads⟩, ne_same (plain_ints 3 _) (p_or0 rfl ?_)⟩))))))))
  refine e_cmp (e_fro rfl (e_call (es_cons (e_fro rfl (es_nil ⟨.list (intsV (headsI (twoN L))), ⟨by decide, r2.heads⟩, ne_same (plain_ints 3 _) (o_last (i_false rfl (s_nil ?_)))⟩)))))
  exact h
theorem vc_A (L : List Int) (hL : L.length ≤ 63) : wpSs (SpK 3) coA ([.fro (.list (intsV L))] ++ List.replicate 21 Slot.undef) (fun o => o = .next (lawA L .undef .undef)) := by
  have e : coA = co_law.take 2 ++ ((co_law.drop 2).take 5 ++ ((co_law.drop 7).take 6 ++ [])) := rfl
  rw [e]
  exact vc_A1 L hL _ _ (vc_A2 L _ _ (vc_A3 L _ _ (s_nil rfl)))
end Mine

-- part 84
namespace Mine
section
variable {Sp : Nat → List V → V → Prop}
theorem cl_two {elt : CE} {x y : V} {ρ : List Slot} {R : List V → Prop} (h : wpE Sp elt ([.fro x, .fro y] ++ frozen ρ) fun y _ => R [y]) : bindN true (.tup [x, y]) fun bs => wpC Sp none (bs ++ frozen ρ) fun b => (b = true → wpE Sp elt (bs ++ frozen ρ) fun y _ => R [y]) ∧ (b = false → R []) := ⟨x, y, rfl, fun _ => h, nofun⟩
theorem zip_tups {α β : Type} (u : α → V) (v : β → V) (e : List α) (f : List β) : ((e.map u).zip (f.map v)).map (fun p => V.tup [p.1, p.2]) = (e.zip f).map fun p => .tup [u p.1, v p.2] := by
  rw [List.zip_map, List.map_map]; rfl
end
theorem minmax {α : Type} (g : α → α → α) (u : α → V) : ∀ (e f : List α), (e.zip f).map (fun p => u (g p.1 p.2)) = (List.zipWith g e f).map u
  | [], _ => by simp
  | _ :: _, [] => by simp
  | x :: e, y :: f => by
    simp only [List.zip_cons_cons, List.map_cons, List.zipWith_cons_cons, minmax g u e f]
theorem ends_len {p : List Nat} (hp : p ∈ pagesN) : (endsN p).length = 4 := (ends_ok hp).len
noncomputable abbrev lawT (L : List Int) (p q sz : List Nat) (t1 t2 : List (Nat × Nat)) (r : List Slot) : List Slot := [.fro (.list (intsV L)), .fro (.list (intsV baseL)), .fro (.list (natsV (tks L))), .fro (.list (natsV (fst4 L))), .fro (.list (natsV (snd4 L))), .fro (.list (natsV p)), .fro (.list (natsV q)), .fro (.list (natsV sz)),
  .fro (.list (natsV (endsN p))), .fro (.list (natsV (endsN q))), .fro (.list (intsV (headsI p))), .fro (.list (intsV (headsI q))), .fro (.list (tblV t1)), .fro (.list (tblV t2))] ++ r
theorem vc_B1 (L : List Int) (p q sz : List Nat) (hp : p ∈ pagesN) (hq : q ∈ pagesN) (h4 : sz.length = 4) (rest : List CS) (R : Out → Prop)
    (h : wpSs (SpK 3) rest (lawT L p q sz (tabF sz (endsN p)) (tabF sz (endsN q)) [.fro (.list (natsV (endsZ (endsN p) (endsN q)))), .fro (.list (intsV (headsZ (headsI p) (headsI q)))), .undef, .undef, .undef, .undef, .undef, .undef]) R) :
    wpSs (SpK 3) ((co_law.drop 15).take 3 ++ rest) (lawT L p q sz (tabF sz (endsN p)) (tabF sz (endsN q)) (List.replicate 8 .undef)) R := by
  show wpSs (SpK 3) (_ :: _ :: _ :: rest) _ R
  refine s_cons (s_ite (e_bop (e_cmp (e_fro rfl (e_call (es_cons (e_fro rfl (es_cons (e_fro rfl (es_nil ⟨.list (tblV (tabF sz (endsN p))), ⟨by decide, p, sz, hp, h4, rfl, rfl⟩, ne_same (plain_tbl _) (p_or0 rfl ?_)⟩))))))))))
  refine e_cmp (e_fro rfl (e_call (es_cons (e_fro rfl (es_cons (e_fro rfl (es_nil ⟨.list (tblV (tabF sz (endsN q))), ⟨by decide, q, sz, hq, h4, rfl, rfl⟩, ne_same (plain_tbl _) (o_last (i_false rfl (s_nil ?_)))⟩)))))))
  have l1 := ends_len hp
  have l2 := ends_len hq
  have l3 := (hds_page hp).len
  have l4 := (hds_page hq).len
  refine s_cons (s_assign (e_comp (e_zip (e_fro rfl (e_fro rfl ⟨_, _, rfl, rfl, _, iterV_list (by simp [natsV]; omega), ?_⟩)))))
  rw [show natsV (endsN p) = (endsN p).map (fun (n : Nat) => V.int n) from rfl, show natsV (endsN q) = (endsN q).map (fun (n : Nat) => V.int n) from rfl, zip_tups]
  refine cl_map _ (fun (z : Nat × Nat) => V.int ((if z.1 ≤ z.2 then z.1 else z.2 : Nat) : Int)) ((endsN p).zip (endsN q)) [] _ (fun z _ R hR => cl_two ?_) ?_
  · refine e_ite (e_call (es_cons (e_fro rfl (es_cons (e_fro rfl (es_nil ⟨.bool (decide ((z.1 : Int) ≤ (z.2 : Int))), ⟨by decide, _, _, rfl, rfl⟩, ?_⟩))))))
    by_cases hz : z.1 ≤ z.2
    · rw [if_pos hz] at hR
      exact i_true (decide_eq_true (by omega)) (e_fro rfl hR)
    · rw [if_neg hz] at hR
      exact i_false (decide_eq_false (by omega)) (e_fro rfl hR)
  have ez : [] ++ ((endsN p).zip (endsN q)).map (fun (z : Nat × Nat) => V.int ((if z.1 ≤ z.2 then z.1 else z.2 : Nat) : Int)) = natsV (endsZ (endsN p) (endsN q)) :=
    minmax (fun a b => if a ≤ b then a else b) (fun (n : Nat) => V.int n) (endsN p) (endsN q)
  rw [ez]
  refine s_cons (s_assign (e_comp (e_zip (e_fro rfl (e_fro rfl ⟨_, _, rfl, rfl, _, iterV_list (by simp [intsV]; omega), ?_⟩)))))
  rw [show intsV (headsI p) = (headsI p).map V.int from rfl, show intsV (headsI q) = (headsI q).map V.int from rfl, zip_tups]
  refine cl_map _ (fun (z : Int × Int) => V.int (if z.2 ≤ z.1 then z.1 else z.2)) ((headsI p).zip (headsI q)) [] _ (fun z _ R hR => cl_two ?_) ?_
  · refine e_ite (e_call (es_cons (e_fro rfl (es_cons (e_fro rfl (es_nil ⟨.bool (decide (z.2 ≤ z.1)), ⟨by decide, _, _, rfl, rfl⟩, ?_⟩))))))
    by_cases hz : z.2 ≤ z.1
    · rw [if_pos hz] at hR
      exact i_true (decide_eq_true hz) (e_fro rfl hR)
    · rw [if_neg hz] at hR
      exact i_false (decide_eq_false hz) (e_fro rfl hR)
  have ey : [] ++ ((headsI p).zip (headsI q)).map (fun (z : Int × Int) => V.int (if z.2 ≤ z.1 then z.1 else z.2)) = intsV (headsZ (headsI p) (headsI q)) :=
    minmax (fun a b => if b ≤ a then a else b) V.int (headsI p) (headsI q)
  rw [ey]
  exact h
theorem take_mono : ∀ (l : List Nat) (a b : Nat), a ≤ b → (l.take a).sum ≤ (l.take b).sum
  | [], a, b, _ => by simp
  | x :: l, 0, b, _ => by simp
  | x :: l, a + 1, 0, h => by omega
  | x :: l, a + 1, b + 1, h => by
    have := take_mono l a b (by omega)
    simp only [List.take_succ_cons, List.sum_cons]; omega
noncomputable def szF (sz e : List Nat) (i : Nat) : Nat := ((sz.drop i).take (e.getD i 0 - i)).sum
theorem szF_min (sz e f : List Nat) (i : Nat) (h : i < e.length) (h' : i < f.length) : szF sz (endsZ e f) i = if szF sz e i ≤ szF sz f i then szF sz e i else szF sz f i := by
  unfold szF
  have e1 : (endsZ e f).getD i 0 = if e.getD i 0 ≤ f.getD i 0 then e.getD i 0 else f.getD i 0 := by
    unfold endsZ
    rw [getDl_at (by simp; omega), List.getElem_zipWith, getDl_at h, getDl_at h']
  rw [e1]
  by_cases hz : e.getD i 0 ≤ f.getD i 0
  · rw [if_pos hz, if_pos (take_mono _ _ _ (by omega))]
  · rw [if_neg hz]
    have := take_mono (sz.drop i) (f.getD i 0 - i) (e.getD i 0 - i) (by omega)
    split
    · omega
    · rfl
theorem tab_get (sz e : List Nat) (i : Nat) (hi : i < 4) : idxV (.list (tblV (tabF sz e))) (.int i) = some (.tup [.int ((sz.take i).sum : Nat), .int (szF sz e i : Nat)]) := by
  have := vs_get (u := fun (p : Nat × Nat) => V.tup [.int p.1, .int p.2]) (l := tabF sz e) (i := i) (d := (0, 0)) (by simp [tabF]; omega) (by simp [tabF])
  refine this.trans ?_
  have e1 : (tabF sz e).getD i (0, 0) = ((sz.take i).sum, szF sz e i) := by
    rw [getDl_at (by simp [tabF]; omega)]
    simp [tabF, szF]
  rw [e1]
theorem vc_B2 (L : List Int) (p q sz : List Nat) (hp : p ∈ pagesN) (hq : q ∈ pagesN) (hs : Slot) (rest : List CS) (R : Out → Prop)
    (h : wpSs (SpK 3) rest (lawT L p q sz (tabF sz (endsN p)) (tabF sz (endsN q)) [.fro (.list (natsV (endsZ (endsN p) (endsN q)))), hs, .fro (.list (tblV (tabF sz (endsZ (endsN p) (endsN q))))), .undef, .undef, .undef, .undef, .undef]) R) :
    wpSs (SpK 3) ((co_law.drop 18).take 1 ++ rest) (lawT L p q sz (tabF sz (endsN p)) (tabF sz (endsN q)) [.fro (.list (natsV (endsZ (endsN p) (endsN q)))), hs, .undef, .undef, .undef, .undef, .undef, .undef]) R := by
  show wpSs (SpK 3) (_ :: rest) _ R
  have l1 := ends_len hp
  have l2 := ends_len hq
  refine s_cons (s_assign (e_comp (e_range (e_int (e_int (e_int ⟨0, 4, 1, rfl, rfl, rfl, by decide, _, rfl, ?_⟩))))))
  refine cl_map (fun (n : Nat) => V.int n) (fun (i : Nat) => V.tup [.int ((sz.take i).sum : Nat), .int (szF sz (endsZ (endsN p) (endsN q)) i : Nat)]) [0, 1, 2, 3] [] _ (fun i hi R hR => cl_one ?_) ?_
  · have hi4 : i < 4 := by simp at hi; omega
    have g1 := tab_get sz (endsN p) i hi4
    have g2 := tab_get sz (endsN q) i hi4
    refine e_tup (es_cons (e_sub (e_subv rfl (by simp [slotV]) (e_fro rfl (x_get rfl g1 (e_int ⟨_, rfl, ?_⟩))))))
    refine es_cons (e_ite (e_call (es_cons (e_sub (e_subv rfl (by simp [slotV]) (e_fro rfl (x_get rfl g1 (e_int ⟨_, rfl, ?_⟩))))))))
    refine es_cons (e_sub (e_subv rfl (by simp [slotV]) (e_fro rfl (x_get rfl g2 (e_int ⟨_, rfl, ?_⟩)))))
    refine es_nil ⟨.bool (decide ((szF sz (endsN p) i : Int) ≤ (szF sz (endsN q) i : Int))), ⟨by decide, _, _, rfl, rfl⟩, ?_⟩
    rw [szF_min _ _ _ _ (by omega) (by omega)] at hR
    by_cases hz : szF sz (endsN p) i ≤ szF sz (endsN q) i
    · rw [if_pos hz] at hR
      exact i_true (decide_eq_true (by omega)) (e_sub (e_subv rfl (by simp [slotV]) (e_fro rfl (x_get rfl g1 (e_int ⟨_, rfl, es_nil hR⟩)))))
    · rw [if_neg hz] at hR
      exact i_false (decide_eq_false (by omega)) (e_sub (e_subv rfl (by simp [slotV]) (e_fro rfl (x_get rfl g2 (e_int ⟨_, rfl, es_nil hR⟩)))))
  · have e : [] ++ [0, 1, 2, 3].map (fun (i : Nat) => V.tup [.int ((sz.take i).sum : Nat), .int (szF sz (endsZ (endsN p) (endsN q)) i : Nat)]) = tblV (tabF sz (endsZ (endsN p) (endsN q))) := by
      simp [tblV, tabF, List.range_succ, szF]
    rw [e]
    exact h
end Mine

-- part 85
namespace Mine
theorem range_0 (i : Nat) : rangeV 0 (i : Int) 1 = (List.range i).map fun (n : Nat) => V.int n := by
  have h := rangeV_nat 0 i
  have e : idxR 0 i = List.range i := by unfold idxR; simp
  rw [e] at h
  exact h
theorem vc_B3 (L : List Int) (p q sz Z : List Nat) (hZ : Z.length = 4) (t1 t2 : List (Nat × Nat)) (hs tb : Slot) (rest : List CS) (R : Out → Prop)
    (h : wpSs (SpK 3) rest (lawT L p q sz t1 t2 [.fro (.list (natsV Z)), hs, tb, .fro (.list (natsV (meetZ Z))), .undef, .undef, .undef, .undef]) R) :
    wpSs (SpK 3) ((co_law.drop 19).take 1 ++ rest) (lawT L p q sz t1 t2 [.fro (.list (natsV Z)), hs, tb, .undef, .undef, .undef, .undef, .undef]) R := by
  show wpSs (SpK 3) (_ :: rest) _ R
  refine s_cons (s_assign (e_comp (e_range (e_int (e_int (e_int ⟨0, 4, 1, rfl, rfl, rfl, by decide, _, rfl, ?_⟩))))))
  refine cl_map (fun (n : Nat) => V.int n) (fun (i : Nat) => V.int ((((List.range i).map fun j => decide (i < Z.getD j 0)).count true : Nat) : Int)) [0, 1, 2, 3] [] _ (fun i hi R hR => cl_one ?_) ?_
  · have hi4 : i < 4 := by simp at hi; omega
    have hit : iterV (.list (rangeV 0 (i : Int) 1)) = some ((List.range i).map fun (n : Nat) => V.int n) := by
      rw [range_0]; exact iterV_list (by simp; omega)
    refine e_call (es_cons (e_comp (e_range (e_int (e_fro rfl (e_int ⟨0, i, 1, rfl, rfl, rfl, by omega, _, hit, ?_⟩))))))
    refine cl_map (fun (n : Nat) => V.int n) (fun (j : Nat) => V.bool (decide (i < Z.getD j 0))) (List.range i) [] _ (fun j hj R hR => cl_one ?_) ?_
    · have hj := List.mem_range.mp hj
      exact e_call (es_cons (e_subv rfl (by simp [slotV]) (e_fro rfl (x_get rfl (nats_get (l := Z) (by omega) (by omega)) (es_cons (e_fro rfl (es_nil ⟨_, ⟨by decide, _, _, rfl, congrArg V.bool (decide_eq_decide.mpr (by omega))⟩, hR⟩)))))))
    · refine es_cons (e_bool (es_nil ⟨_, ⟨by decide, (List.range i).map fun j => decide (i < Z.getD j 0), by simp; omega, ?_, rfl⟩, hR⟩))
      rw [List.map_map]; rfl
  · have e : [] ++ [0, 1, 2, 3].map (fun (i : Nat) => V.int ((((List.range i).map fun j => decide (i < Z.getD j 0)).count true : Nat) : Int)) = natsV (meetZ Z) := by
      simp [natsV, meetZ, List.range_succ]
    rw [e]
    exact h
noncomputable abbrev joinB : List CS := [.append 18 (.ite (.call 4 [(.var 19), (.int 0)]) (.call 6 [(.callv 8 18 (.var 19)), (.int 1)]) (.int 0))]
noncomputable abbrev joinR (L : List Int) (p q sz : List Nat) (t1 t2 : List (Nat × Nat)) (a b c d : Slot) (J : List Nat) (s : Slot) : List Slot := lawT L p q sz t1 t2 [a, b, c, d, .own (natsV J), s, .undef, .undef]
theorem vc_joinL (L : List Int) (p q sz : List Nat) (t1 t2 : List (Nat × Nat)) (a b c d : Slot) (R : Out → Prop) : ∀ (hs : List Int) (J : List Nat) (s : Slot), (∀ k, k < hs.length → hs.getD k 0 < ((J.length + k : Nat) : Int)) → J.length + hs.length ≤ 10 →
    (∀ s', R (.next (joinR L p q sz t1 t2 a b c d (hs.foldl joinS J) s'))) → forL (bind1 19) (fun ρ k => wpSs (SpK 3) joinB ρ k) (intsV hs) (joinR L p q sz t1 t2 a b c d J s) R
  | [], J, s, _, _, h => f_nil (h s)
  | x :: hs, J, s, hb, hl, h => by
    simp only [List.length_cons] at hl
    have hx : x < (J.length : Int) := hb 0 (by simp)
    have ih := fun s => vc_joinL L p q sz t1 t2 a b c d R hs (joinS J x) s (fun k hk => by
      have := hb (k + 1) (by simp; omega)
      simp only [List.getD_cons_succ] at this
      simp only [joinS, List.length_append, List.length_cons, List.length_nil]
      omega) (by simp only [joinS, List.length_append, List.length_cons, List.length_nil]; omega) h
    show forL _ _ (.int x :: intsV hs) _ _
    refine f_cons1 (s_cons (s_append rfl (e_ite (e_call (es_cons (e_fro rfl (es_cons (e_int (es_nil ⟨_, ⟨by decide, x, 0, rfl, rfl⟩, ?_⟩)))))))))
    have fin : ∀ y : Nat, joinS J x = J ++ [y] → (natsV J).length ≤ 1048576 ∧ wpSs (SpK 3) [] (((joinR L p q sz t1 t2 a b c d J s).set 19 (.fro (.int x))).set 18 (.own (natsV J ++ [.int (y : Nat)]))) (loopOut (fun ρ₂ => forL (bind1 19) (fun ρ k => wpSs (SpK 3) joinB ρ k) (intsV hs) ρ₂ R) R) := by
      intro y hy
      refine ⟨by simp [natsV]; omega, s_nil (l_next ?_)⟩
      have := ih (.fro (.int x))
      rw [hy] at this
      have e : natsV (J ++ [y]) = natsV J ++ [.int (y : Nat)] := by simp [natsV]
      unfold joinR at this
      rw [e] at this
      exact this
    by_cases h0 : 0 ≤ x
    · refine i_true (decide_eq_true h0) ?_
      have hk : x = (x.toNat : Int) := by omega
      have hkl : x.toNat < J.length := by omega
      refine e_call (es_cons (e_callv rfl (by simp [slotV]) (e_fro rfl ⟨_, ((J.getD x.toNat 0 : Nat) : Int), rfl, ⟨by decide, natsV J, x, rfl, ?_⟩, es_cons (e_int (es_nil ⟨_, ⟨by decide, _, _, rfl, rfl⟩, ?_⟩))⟩)))
      · rw [hk]; exact nats_get hkl (by omega)
      · exact fin (J.getD x.toNat 0 + 1) (by unfold joinS; rw [if_pos h0])
    · refine i_false (decide_eq_false h0) (e_int ?_)
      exact fin 0 (by unfold joinS; rw [if_neg h0])
theorem vc_B4 (L : List Int) (p q sz : List Nat) (H : List Int) (hH : Hds H) (t1 t2 : List (Nat × Nat)) (a c d : Slot) (rest : List CS) (R : Out → Prop)
    (h : ∀ s, wpSs (SpK 3) rest (lawT L p q sz t1 t2 [a, .fro (.list (intsV H)), c, d, .own (natsV (joinZ H)), s, .undef, .undef]) R) :
    wpSs (SpK 3) ((co_law.drop 20).take 2 ++ rest) (lawT L p q sz t1 t2 [a, .fro (.list (intsV H)), c, d, .undef, .undef, .undef, .undef]) R := by
  show wpSs (SpK 3) (_ :: _ :: rest) _ R
  have l := hH.len
  refine s_cons (s_ownList (es_nil (s_cons (s_for1 (e_fro rfl ⟨_, iterV_list (by simp [intsV]; omega), ?_⟩)))))
  exact vc_joinL L p q sz t1 t2 a _ c d _ H [] .undef (fun k hk => by have := hH.lt k (by omega); simpa using this) (by simp; omega) h
theorem natsV_inj : ∀ {a b : List Nat}, natsV a = natsV b → a = b
  | [], [], _ => rfl
  | [], _ :: _, h => by cases h
  | _ :: _, [], h => by cases h
  | x :: a, y :: b, h => by
    have h : V.int (x : Int) :: natsV a = V.int (y : Int) :: natsV b := h
    obtain ⟨h1, h2⟩ := List.cons.inj h
    have h1 := V.int.inj h1
    rw [natsV_inj h2, show x = y by omega]
theorem natsL_mem {x : List Nat} {l : List (List Nat)} : V.list (natsV x) ∈ natsL l ↔ x ∈ l := by
  unfold natsL
  constructor
  · intro h
    obtain ⟨y, hy, e⟩ := List.mem_map.mp h
    rw [← natsV_inj (V.list.inj e)]; exact hy
  · intro h; exact List.mem_map.mpr ⟨x, h, rfl⟩
theorem plain_natsL (n : Nat) (l : List (List Nat)) : V.plain (n + 2) (.list (natsL l)) = true := by
  refine plain_all.mpr fun v hv => ?_
  obtain ⟨y, _, rfl⟩ := List.mem_map.mp hv
  exact plain_nats n y
theorem natsL_ints (l : List (List Nat)) : natsL l = (intsL l).map fun x => V.list (intsV x) := by
  unfold natsL intsL
  rw [List.map_map]
  refine List.map_congr_left fun x _ => ?_
  simp only [Function.comp, ints_nats]
theorem cl_filter {f : V → (List V → Prop) → Prop} {α : Type} (u : α → V) (c : α → Bool) : ∀ (xs : List α) (acc : List V) (Q : List V → Prop), (∀ x ∈ xs, ∀ R : List V → Prop, R (if c x then [u x] else []) → f (u x) R) → Q (acc ++ (xs.filter c).map u) → compL f (xs.map u) acc Q
  | [], acc, Q, _, h => by
    unfold compL; simpa using h
  | x :: xs, acc, Q, hf, h => by
    show f (u x) _
    refine hf x (List.mem_cons_self ..) _ ?_
    refine cl_filter u c xs _ Q (fun y hy => hf y (List.mem_cons_of_mem _ hy)) ?_
    cases hc : c x
    · simpa [List.filter_cons, hc] using h
    · simpa [List.filter_cons, hc] using h
theorem sorted_of {A : List (List Nat)} {r : List (List Int)} {P : List (List Int) → Prop} (hA : lstOk A = true) (hr : pureSort (intsL A) = some r) (h : P r) :
    ∃ ls : List (List Int), V.list (natsL A) = .list (ls.map fun x => .list (intsV x)) ∧ 0 < ls.length ∧ ls.length < 64 ∧ (∀ x ∈ ls, x.length = 4) ∧ ∃ rs, pureSort ls = some rs ∧ P rs := by
  unfold lstOk at hA
  obtain ⟨h1, h2⟩ := Bool.and_eq_true_iff.mp hA
  obtain ⟨h3, h4⟩ := of_decide_eq_true h1
  refine ⟨intsL A, congrArg V.list (natsL_ints A), by simpa [intsL] using h3, by simpa [intsL] using h4, fun x hx => ?_, r, hr, h⟩
  obtain ⟨y, hy, rfl⟩ := List.mem_map.mp hx
  have := of_decide_eq_true (List.all_eq_true.mp h2 y hy)
  simpa using this
end Mine

-- part 86
namespace Mine
theorem plain_intsL (n : Nat) (l : List (List Int)) : V.plain (n + 2) (.list (l.map fun x => .list (intsV x))) = true := by
  refine plain_all.mpr fun v hv => ?_
  obtain ⟨y, _, rfl⟩ := List.mem_map.mp hv
  exact plain_ints n y
theorem eq_same {P : Bool → Prop} {a : List V} (hp : V.plain 4 (.list a) = true) (h : P true) : (∃ r, cmpV .Eq (.list a) (.list a) r) ∧ ∀ r, cmpV .Eq (.list a) (.list a) r → P r :=
  c_eqL hp hp fun r hr => by
    cases r
    · exact absurd (hr.mpr rfl) (by simp)
    · exact h
theorem had_len : (pagesN.all fun p => decide ((hadN p false).length ≤ 100 ∧ (hadN p true).length ≤ 100)) = true := by decide +kernel
theorem had_le {p : List Nat} (hp : p ∈ pagesN) (up : Bool) : (hadN p up).length ≤ 100 := by
  have h := of_decide_eq_true (List.all_eq_true.mp had_len p hp)
  cases up
  · exact h.1
  · exact h.2
theorem e_way {Q : V → List Slot → Prop} {ρ : List Slot} (up : Bool) (h : Q (.int (wayI up)) ρ) : wpE (SpK 3) (if up then .int 1 else .neg (.int 1)) ρ Q := by
  cases up
  · exact e_neg (e_int ⟨_, rfl, h⟩)
  · exact e_int h
theorem e_both {Q : V → List Slot → Prop} {ρ : List Slot} {p q : List Nat} {up : Bool} {b : Nat} (hp : p ∈ pagesN) (hq : q ∈ pagesN) (h5 : ρ[5]? = some (.fro (.list (natsV p)))) (hb : (frozen ρ)[b]? = some (.fro (.list (natsL (hadN q up)))))
    (h : Q (.list (natsL ((hadN p up).filter fun x => (hadN q up).contains x))) ρ) : wpE (SpK 3) (.comp (.var 0) false (.call 15 [(.var 5), (if up then .int 1 else .neg (.int 1))]) (some (.mem false (.var 0) (b + 1)))) ρ Q := by
  have l1 := had_le hp up
  have l2 := had_le hq up
  refine e_comp (e_call (es_cons (e_fro h5 (es_cons (e_way up (es_nil ⟨_, ⟨by decide, (runs hp).had up⟩, _, iterV_list (by simp [natsL]; omega), ?_⟩))))))
  refine cl_filter (fun x => V.list (natsV x)) (fun x => (hadN q up).contains x) (hadN p up) [] _ (fun x _ R hR => ?_) ?_
  · refine wc_some (e_mem (e_fro rfl ⟨natsL (hadN q up), ?_, plain_nats 3 x, plain_natsL 2 _, by simp [natsL]; omega, fun r hr => ⟨_, rfl, ?_⟩⟩))
    · have e : ([Slot.fro (V.list (natsV x))] ++ frozen ρ)[b + 1]? = some (.fro (.list (natsL (hadN q up)))) := by simpa using hb
      rw [getD_some e]; rfl
    · have hr : r = (hadN q up).contains x := by
        rw [Bool.eq_iff_iff, hr, natsL_mem, List.contains_iff_mem]
      rw [hr]
      cases hc : (hadN q up).contains x with
      | true =>
        rw [hc] at hR
        exact ⟨fun _ => e_fro rfl hR, fun e => by cases e⟩
      | false =>
        rw [hc] at hR
        exact ⟨fun e => by (cases e), fun _ => hR⟩
  · exact h
theorem vc_B5 (L : List Int) (p q sz : List Nat) (hp : p ∈ pagesN) (hq : q ∈ pagesN) (h4 : sz.length = 4) (t1 t2 : List (Nat × Nat)) (a : Slot) (s : Slot) :
    wpSs (SpK 3) (co_law.drop 22) (lawT L p q sz t1 t2 [a, .fro (.list (intsV (headsZ (headsI p) (headsI q)))), .fro (.list (tblV (tabF sz (endsZ (endsN p) (endsN q))))), .fro (.list (natsV (meetN p q))), .own (natsV (joinN p q)), s, .undef, .undef]) (fun o => o = .ret (.bool true)) := by
  have P := pair_facts hp hq
  show wpSs (SpK 3) [_, _, _, _, _] _ _
  rw [← P.me, ← P.je]
  refine s_cons (s_ite (e_bop (e_cmp (e_fro rfl (e_call (es_cons (e_fro rfl (es_cons (e_fro rfl (es_nil ⟨.list (tblV (tabF sz (endsN (meetN p q)))), ⟨by decide, meetN p q, sz, P.m, h4, rfl, rfl⟩, ne_same (plain_tbl _) (p_or0 rfl ?_)⟩))))))))))
  refine e_cmp (e_fro rfl (e_call (es_cons (e_own rfl (es_nil ⟨.list (intsV (headsI (joinN p q))), ⟨by decide, (runs P.j).heads⟩, ne_same (plain_ints 3 _) (o_last (i_false rfl (s_nil ?_)))⟩)))))
  refine s_cons (s_assign (e_call (es_cons (e_fro rfl (es_cons (e_way false (es_nil ⟨_, ⟨by decide, (runs hq).had false⟩, ?_⟩)))))))
  obtain ⟨r, hr1, hr2⟩ := P.s.eq
  refine s_cons (s_ite (e_cmp (e_sorted (e_both (up := false) (b := 20) hp hq rfl rfl (sorted_of P.s.a hr1 (e_sorted (e_call (es_cons (e_fro rfl (es_cons (e_way false (es_nil ⟨_, ⟨by decide, (runs P.m).had false⟩, sorted_of P.s.b hr2 ?_⟩)))))))))))
  )
  refine ne_same (plain_intsL 2 _) (i_false rfl (s_nil ?_))
  refine s_cons (s_assign (e_call (es_cons (e_fro rfl (es_cons (e_way true (es_nil ⟨_, ⟨by decide, (runs hq).had true⟩, ?_⟩)))))))
  obtain ⟨r', hr1', hr2'⟩ := P.t.eq
  refine s_cons (s_ret (e_cmp (e_sorted (e_both (up := true) (b := 21) hp hq rfl rfl (sorted_of P.t.a hr1' (e_sorted (e_call (es_cons (e_fro rfl (es_cons (e_way true (es_nil ⟨_, ⟨by decide, (runs P.j).had true⟩, sorted_of P.t.b hr2' ?_⟩)))))))))))
  )
  exact eq_same (plain_intsL 2 _) rfl
theorem vc_B (L : List Int) : wpSs (SpK 3) coB (lawA L (.fro (.list (tblV (tabF (sizesN L) (endsN (oneN L)))))) (.fro (.list (tblV (tabF (sizesN L) (endsN (twoN L))))))) (fun o => o = .ret (.bool true)) := by
  have hp := one_in L
  have hq := two_in L
  have P := pair_facts hp hq
  have h4 : (sizesN L).length = 4 := rfl
  have hZ : (endsZ (endsN (oneN L)) (endsN (twoN L))).length = 4 := by
    unfold endsZ
    rw [List.length_zipWith, ends_len hp, ends_len hq]; rfl
  have hH : Hds (headsZ (headsI (oneN L)) (headsI (twoN L))) := by rw [← P.je]; exact hds_page P.j
  have e : coB = (co_law.drop 15).take 3 ++ ((co_law.drop 18).take 1 ++ ((co_law.drop 19).take 1 ++ ((co_law.drop 20).take 2 ++ co_law.drop 22))) := rfl
  rw [e]
  refine vc_B1 L (oneN L) (twoN L) (sizesN L) hp hq h4 _ _ ?_
  refine vc_B2 L (oneN L) (twoN L) (sizesN L) hp hq _ _ _ ?_
  refine vc_B3 L (oneN L) (twoN L) (sizesN L) _ hZ _ _ _ _ _ _ ?_
  refine vc_B4 L (oneN L) (twoN L) (sizesN L) _ hH _ _ _ _ _ _ _ fun s => ?_
  exact vc_B5 L (oneN L) (twoN L) (sizesN L) hp hq h4 _ _ _ s
end Mine

-- part 87
namespace Mine
noncomputable abbrev lawSc : Scope := (topDf "law").scope
theorem law_parts : ∃ (stA stB : List Stmt) (a1 a2 : Expr) (p1 p2 p3 p4 p5 p6 p7 p8 : Pos),
    (topDf "law").body = stA ++ (.Assign [.Name "table_one" p1] (.Call (.Name "_law_read" p2) [a1] [] p3) p4 :: .Assign [.Name "table_two" p5] (.Call (.Name "_law_read" p6) [a2] [] p7) p8 :: stB) ∧
    (noStar a1 = true ∧ noStar a2 = true ∧ chkSs glo lawSc vs_law coA stA = true ∧ chkE glo lawSc vs_law false (.call 13 [.var 5, .var 7]) a1 = true ∧ chkE glo lawSc vs_law false (.call 13 [.var 6, .var 7]) a2 = true ∧ chkSs glo lawSc vs_law coB stB = true) :=
  ⟨(topDf "law").body.take 13, (topDf "law").body.drop 15, _, _, _, _, _, _, _, _, _, _, rfl, rfl, rfl, by decide +kernel, by decide +kernel, by decide +kernel, by decide +kernel⟩
theorem law_sh (pm cd doc : Value) : FnSh0 (fdOf "law" pm cd doc) (topDf "law").body ["script"] ["base", "tells", "first", "second", "one", "two", "sizes", "ends_one", "ends_two", "heads_one", "heads_two", "table_one", "table_two", "ends", "heads", "table", "meet", "join", "head", "below", "above"] := fnSh0_of rfl rfl (by decide +kernel) fun vals h => vals1 h fun _ => rfl
theorem law_s12 : isStore lawSc vs_law 12 "table_one" = true := by decide +kernel
theorem law_s13 : isStore lawSc vs_law 13 "table_two" = true := by decide +kernel
theorem law_gr : isGlob lawSc "_law_read" = true := by decide +kernel
section
variable {prog : Program} {w : World} {B : Heap} {C N : Addr} {mN mg mb : Str → Option Value} {fI fL fD fS : Addr}
variable {cx : Cx} {K g₀ g : PH} {s₀ s : Shared} {val : Nat → Value} {ρ : List Slot} {A : Around} {E : Value → Shared → Prop} {sc : Scope}
theorem read_call {fr : Addr} {f : Str} {arg : Expr} {p1 p3 : Pos} {c : CE} {tbl : List (Nat × Nat)} {R : Value → Shared → Prop} (H : SndAll prog w B C mg mb 3 (SpK 3)) (hcl : Callee prog w B fr) (hmv : mg f = some (.ref fr)) (hg : isGlob sc f = true) (hro : ReadOk prog w B C 2 fr tbl)
    (at_ : At B C 3 sc cx K A) (hfr : A.frames = some [cx.env]) (hf : cx.env.frame = some cx.env.locals) (I : Inv cx K g₀ s₀ val ρ g s) (hn : noStar arg = true) (hc : chkE glo sc cx.vars false c arg = true) (hw : wpE (SpK 3) c ρ fun v ρ' => v = .list (tblV tbl) ∧ ρ' = ρ)
    (hR : ∀ v g' s', Inv cx K g₀ s₀ val ρ g' s' → Rep C g' v (.list (tblV tbl)) → R v s') :
    wpAny (model prog w) A (eval (.Call (.Name f p1) [arg] [] p3) cx.env) R E s := by
  have D := H.S.base
  have hC := at_.cls
  rw [arm_eval_Call_Name']
  refine wpAny_bind (glob_fn D at_ (I.sub at_) hg hmv ?_)
  rw [backTo1 hn]
  refine hcl A s E _ p3 [] _ (evalArgs_plain (spliced_cons (SndE.then (c := c) (sndA H.S H.srt c).1 hc at_ I hw fun d ρ' g' v s' hq I' _ r => ?_)))
  obtain ⟨rfl, rfl⟩ := hq
  refine spliced_nil ⟨I'.sub at_, ?_⟩
  have hB0 : B.get? cx.env.locals = none := nn fun o q => nos (I'.priv _ I'.lp).2.1 (at_.sub _ o q)
  refine hro A s' g' cx.env E R [v] (at_.a.mono (by decide)) hfr hf (by rw [at_.env.kind]; decide) hB0 (I'.sub at_) I'.here (.cons (hC ▸ r) .nil) ?_
  intro v₂ s₂ g₂ e₂ r₂
  exact hR v₂ g₂ s₂ (I'.ext e₂) r₂
theorem law_small (L : List Int) : ∀ e, ∀ p ∈ tabF (sizesN L) e, p.1 < 262144 ∧ p.2 < 262144 := by
  have hsz : ∀ x ∈ sizesN L, x ≤ 5000 := fun x hx => by
    obtain ⟨y, _, rfl⟩ := List.mem_map.mp hx
    unfold szN; omega
  have hs : ∀ l : List Nat, (∀ x ∈ l, x ≤ 5000) → l.sum ≤ l.length * 5000 := fun l => List.rec (motive := fun l => (∀ x ∈ l, x ≤ 5000) → l.sum ≤ l.length * 5000) (fun _ => Nat.zero_le _) (fun x l ih hx => Nat.le_trans (Nat.add_le_add (hx x (.head _)) (ih fun y hy => hx y (.tail _ hy))) (Nat.le_of_eq ((Nat.add_comm ..).trans (Nat.succ_mul ..).symm))) l
  have h4 : ∀ l : List Nat, l.length ≤ 4 → (∀ x ∈ l, x ≤ 5000) → l.sum < 262144 := fun l h hx => Nat.lt_of_le_of_lt (Nat.le_trans (hs l hx) (Nat.mul_le_mul_right 5000 h)) (by decide)
  have l4 : (sizesN L).length ≤ 4 := Nat.le_refl 4
  intro e p hp
  obtain ⟨i, _, rfl⟩ := List.mem_map.mp hp
  exact ⟨h4 _ (Nat.le_trans (List.length_take_le' ..) l4) fun x hx => hsz x (List.mem_of_mem_take hx), h4 _ (Nat.le_trans (List.length_take_le' ..) (Nat.le_trans (List.length_drop .. ▸ Nat.sub_le ..) l4)) fun x hx => hsz x (List.mem_of_mem_drop (List.mem_of_mem_take hx))⟩
theorem law_ok (W : Wd prog w B C N mN mg mb fI fL fD fS) {a : Addr} {pm cd doc : Value} (F : FnAt B a (fdOf "law" pm cd doc)) (L : List Int) (hL : L.length ≤ 63) {cvs : List Value} {Q : Value → Shared → Prop} (hA : AOk 4 A) (hfr : A.frames = some []) (hB : PH.Sub (ofHeap B) s.heap) (hf : PH.Sub g s.heap) (hr : Reps C g cvs [.list (intsV L)])
    (hQ : ∀ s', (∀ b o, s.heap.get? b = some o → s'.heap.get? b = some o) → Rest s s' → Q (.bool true) s') : wpAny (model prog w) A (call (.ref a) cvs) Q E s := by
  have H := lev3 W
  obtain ⟨fr, _, _, _, hmr, Fr⟩ := W.fns "_law_read" (by decide)
  refine enter_of (n := 3) (K := ofHeap s.heap) (vs := [.list (intsV L)]) (g := g) W.base F (law_sh pm cd doc) rfl hA hB hB (fun _ _ e => e) hf hr fun cx s₁ hvars hCx hfrm hsc hP hkeep hrest at_ I => ?_
  have hvars : cx.vars = vs_law := hvars
  obtain ⟨stA, stB, a1, a2, p1, p2, p3, p4, p5, p6, p7, p8, hbody, hn1, hn2, hcA, hc1, hc2, hcB⟩ := law_parts
  rw [hbody]
  rw [← hvars] at hcA hc1 hc2 hcB
  have st12 : isStore lawSc cx.vars 12 "table_one" = true := by rw [hvars]; exact law_s12
  have st13 : isStore lawSc cx.vars 13 "table_two" = true := by rw [hvars]; exact law_s13
  have at_ : At B C 3 lawSc cx (ofHeap s.heap) (A.deeper cx.env) := at_
  have hfr1 : (A.deeper cx.env).frames = some [cx.env] := Around.frames_deeper hfr
  have vA := vc_A L hL
  have I : Inv cx (ofHeap s.heap) g s (fun i => cvs.getD i .none) ([.fro (.list (intsV L))] ++ List.replicate 21 Slot.undef) g s₁ := I
  refine prefix_ok (Qo := fun o => o = .next (lawA L .undef .undef)) (sc := lawSc) (cx := cx) (st := stA) (rest := _ :: _ :: _) H at_ (fun o ho => ⟨_, ho⟩) (fun val₂ ρ₂ g₂ s₂ hρ I₂ => ?_) coA _ _ _ _ hcA I vA
  cases hρ
  have h1 := one_in L
  have h2 := two_in L
  have hb := law_small L
  have R1 := read_at W hmr (tabF (sizesN L) (endsN (oneN L))) (by simp [tabF]) (hb _)
  have R2 := read_at W hmr (tabF (sizesN L) (endsN (twoN L))) (by simp [tabF]) (hb _)
  have hC := at_.cls
  refine wpAny_execs_cons (wpAny_Assign_Name (read_call H (callee_fn Fr) hmr law_gr R1 at_ hfr1 hfrm I₂ hn1 hc1 (e_call (es_cons (e_fro rfl (es_cons (e_fro rfl (es_nil ⟨_, ⟨by decide, oneN L, sizesN L, h1, rfl, rfl, rfl⟩, rfl, rfl⟩)))))) fun v₃ g₃ s₃ I₃ r₃ => ?_) rfl)
  refine store_ok (sl := .fro (.list (tblV (tabF (sizesN L) (endsN (oneN L)))))) at_ I₃ st12 (show Rep cx.C _ _ _ by rw [hC]; exact r₃) fun s₄ I₄ => ?_
  refine wpAny_execs_cons (wpAny_Assign_Name (read_call H (callee_fn Fr) hmr law_gr R2 at_ hfr1 hfrm I₄ hn2 hc2 (e_call (es_cons (e_fro rfl (es_cons (e_fro rfl (es_nil ⟨_, ⟨by decide, twoN L, sizesN L, h2, rfl, rfl, rfl⟩, rfl, rfl⟩)))))) fun v₅ g₅ s₅ I₅ r₅ => ?_) rfl)
  refine store_ok (sl := .fro (.list (tblV (tabF (sizesN L) (endsN (twoN L)))))) at_ I₅ st13 (show Rep cx.C _ _ _ by rw [hC]; exact r₅) fun s₆ I₆ => ?_
  refine wpAny_mono (sndSs H coB lawSc cx _ _ _ _ _ _ _ _ _ _ _ hcB at_ I₆ (vc_B L)) (fun f s' p => ?_) fun _ _ e => e
  obtain ⟨o', val', g', rfl, ok⟩ := p
  cases f with
  | ret v => exact ok.1.elim fun ρ' J => (show v = .bool true from ok.2) ▸ hQ s' (fun b o e => J.keep b o e) J.rest
  | _ => exact False.elim ok
end
end Mine

-- part 88
namespace Mine

noncomputable abbrev pw : Program := PySem.Challenge.pw_tc0021_01
noncomputable abbrev lw : OpenLaw := PySem.Challenge.rw_tc0021_01
noncomputable def vw : Program := view pw [0, 2, 3, 4, 6, 8, 9, 10, 11, 12, 13, 15, 17, 18, 19, 20, 21, 22, 23, 24, 25, 26, 27, 28]
noncomputable def lse : List Str := ["Whitespace"]
noncomputable def dE (P : Params) (x : Str) (t : Nat) (v : Value) : DictEntry := { hash := PyData.keyHash P x, key := .str x t, val := v }
noncomputable def KF (P : Params) : Frag := [(3, { cls := .type "dict", data := .dict #[dE P "__name__" 165 (.str "law_tc0021_01" 393), dE P "__doc__" 166 (.none), dE P "__package__" 167 (.none), dE P "__loader__" 168 (.builtin "__main__.__loader__#opaque"), dE P "__spec__" 169 (.none), dE P "__annotations__" 170 (.ref 6), dE P "__builtins__" 171 (.ref 4), dE P "__file__" 173 (.str "/claim/cut.py" 172), dE P "__cached__" 174 (.none), dE P "_wall" 193 (.ref 21), dE P "_iter_escaped_chars" 205 (.ref 28), dE P "_strip_quoted_realnames" 217 (.ref 35), dE P "_check_parenthesis" 227 (.ref 42), dE P "_parse_varint" 238 (.ref 49), dE P "le" 248 (.ref 56), dE P "ge" 256 (.ref 63), dE P "gt" 264 (.ref 70), dE P "add" 272 (.ref 77), dE P "countOf" 282 (.ref 84), dE P "getitem" 290 (.ref 91), dE P "Whitespace" 392 (.ref 153), dE P "_law_page" 403 (.ref 164), dE P "_law_ends" 413 (.ref 171), dE P "_law_heads" 423 (.ref 178), dE P "_law_table" 429 (.ref 183), dE P "_law_moved" 435 (.ref 188), dE P "_law_had" 446 (.ref 195), dE P "_law_lines" 461 (.ref 202), dE P "_law_nanny" 467 (.ref 207), dE P "_law_mail" 484 (.ref 214), dE P "_law_figures" 493 (.ref 221), dE P "_law_read" 506 (.ref 228), dE P "law" 512 (.ref 233)] 33 }),
  (152, { cls := .type "dict", data := .dict #[dE P "__module__" 300 (.str "cpy313.tabnanny" 291), dE P "__firstlineno__" 304 (.int 74 303), dE P "S" 308 (.str " " 306), dE P "T" 309 (.str "\t" 307), dE P "__init__" 324 (.ref 108), dE P "longest_run_of_spaces" 333 (.ref 115), dE P "indent_level" 345 (.ref 122), dE P "equal" 353 (.ref 129), dE P "not_equal_witness" 361 (.ref 136), dE P "less" 371 (.ref 143), dE P "not_less_witness" 379 (.ref 150), dE P "__static_attributes__" 385 (.ref 151), dE P "__dict__" 387 (.ref 154), dE P "__weakref__" 389 (.ref 155), dE P "__doc__" 390 (.none)] 4 }),
  (153, { cls := .type "type", data := .cls { name := "Whitespace", bases := [.type "object"], mro := [.ref 153, .type "object"], ns := 152, qualname := "Whitespace" }, slots := #[none, none, some (.str "Whitespace" 293), some (.str "Whitespace" 301), some (.builtin "object.__new__"), some (.bool true)] }),
  (107, { cls := .type "code", data := .fields #[.str "__init__" 310, .str "Whitespace.__init__" 311, .str "/claim/cut.py" 312, .int 77 0, .int 2 0, .int 0 0, .int 0 0, .int 3 0, .ref 102, .bool true, .int 181 0, .ref 103, .none, .ref 104, .ref 105, .ref 106, .int 322 0, .int 77 0, .str "/claim/cut.py" 323] }),
  (114, { cls := .type "code", data := .fields #[.str "longest_run_of_spaces" 325, .str "Whitespace.longest_run_of_spaces" 326, .str "/claim/cut.py" 327, .int 100 0, .int 1 0, .int 0 0, .int 0 0, .int 3 0, .ref 109, .bool true, .int 181 0, .ref 110, .none, .ref 111, .ref 112, .ref 113, .int 331 0, .int 100 0, .str "/claim/cut.py" 332] }),
  (121, { cls := .type "code", data := .fields #[.str "indent_level" 334, .str "Whitespace.indent_level" 335, .str "/claim/cut.py" 336, .int 104 0, .int 2 0, .int 0 0, .int 0 0, .int 3 0, .ref 116, .bool true, .int 181 0, .ref 117, .none, .ref 118, .ref 119, .ref 120, .int 343 0, .int 104 0, .str "/claim/cut.py" 344] }),
  (142, { cls := .type "code", data := .fields #[.str "less" 362, .str "Whitespace.less" 363, .str "/claim/cut.py" 364, .int 117 0, .int 2 0, .int 0 0, .int 0 0, .int 3 0, .ref 137, .bool true, .int 181 0, .ref 138, .none, .ref 139, .ref 140, .ref 141, .int 369 0, .int 117 0, .str "/claim/cut.py" 370] }),
  (108, { cls := .type "function", data := .func (mdOf "__init__" (.str "cpy313.tabnanny" 291) (.ref 107) .none) }),
  (115, { cls := .type "function", data := .func (mdOf "longest_run_of_spaces" (.str "cpy313.tabnanny" 291) (.ref 114) .none) }),
  (122, { cls := .type "function", data := .func (mdOf "indent_level" (.str "cpy313.tabnanny" 291) (.ref 121) .none) }),
  (143, { cls := .type "function", data := .func (mdOf "less" (.str "cpy313.tabnanny" 291) (.ref 142) .none) }),
  (2, { cls := .none, data := .dict #[] })]
noncomputable def hk : Hook := kHook KF [3, 152, 153, 107, 114, 121, 142, 108, 115, 122, 143, 2] (fun _ => rfl)
noncomputable def xt (s : Shared) : Bool := xlAt vw [] s && recOk (RowW.records lw.row.toRowW) s
noncomputable def seenB (s : Shared) := openSeen vw lse (importedModules pw.main.body) xt true s
noncomputable def seenF (s : Shared) := PySem.W.Fast.tw4187177175401517315 vw lse (importedModules pw.main.body) xt true s
theorem seen_eq (s : Shared) : seenB s = seenF s := congrFun (congrFun (congrFun (congrFun (congrFun (congrFun PySem.W.Fast.te4187177175401517315 vw) lse) (importedModules pw.main.body)) xt) true) s
noncomputable def looks (P : Params) (s : Shared) := (staticsOk (importedModules pw.main.body) (boot_heap P) s.heap && namesBound pw s.heap && gensDone s && laidKept (boot_heap P) s.heap, seenF s, hk.obs s)
noncomputable abbrev shB (P : Params) (os : OsState) : Shared := ⟨boot_heap P, Array.mk [], boot_drawn, boot_toks, os⟩
theorem run_eq (w : World) (n : Nat) (s : Shared) (t : Thread) : topRun treeTable pw w 11 (some (.ref 6)) n s t = PySem.W.Fast.tw14082659384304107361 PySem.W.Fast.tw14364793385576792824 pw w 11 (some (.ref 6)) n s t := by
  rw [PySem.W.Fast.te14082659384304107361, PySem.W.Fast.te14364793385576792824]
theorem size0 (w : World) : ((boot_heap w.params).isNs mainGlobals && (Array.mk [] : Array GenState).size == 0, (boot_heap w.params).objs.size, (boot_heap w.params).nsMap mainGlobals "__annotations__") = (true, 11, some (.ref 6)) := by kernel_rfl
noncomputable abbrev RunOk (w : World) (P : Params) (os : OsState) : Prop := (topRun treeTable pw w 11 (some (.ref 6)) 2628 (shB P os) (topStub pw)).map (looks P) = some (true, openGood vw lse, hk.val w)
theorem topRun0 (w : World) (os : OsState) : RunOk (w.withFollow "special-get-raises" false) (w.withFollow "special-get-raises" false).params os := by unfold RunOk; rw [run_eq]; kernel_rfl
theorem topRun1 (w : World) (os : OsState) : RunOk (w.withFollow "special-get-raises" true) (w.withFollow "special-get-raises" true).params os := by unfold RunOk; rw [run_eq]; kernel_rfl
theorem topRuns (w : World) : ∀ os, RunOk w w.params os := byRow2 "special-get-raises" (P := fun w => ∀ os, RunOk w w.params os) topRun0 topRun1 w
theorem left : LeftO pw vw lse xt hk.obs hk.val 2628 := fun w => by
  obtain ⟨⟨h, gs, d, k, os⟩, e, e'⟩ := Option.map_eq_some_iff.mp (boot_open (p := pw) (N := 2628) rfl rfl (fun _ => rfl) w)
  obtain ⟨rfl, rfl, rfl, rfl⟩ : h = boot_heap w.params ∧ gs = Array.mk [] ∧ d = boot_drawn ∧ k = boot_toks := by simpa using e'
  obtain ⟨z1, z2, z3⟩ : _ ∧ _ ∧ _ := by simpa only [Prod.mk.injEq] using size0 w
  obtain ⟨s₁, r, l⟩ := Option.map_eq_some_iff.mp (topRuns w os)
  obtain ⟨l1, l2, l3⟩ : _ ∧ _ ∧ _ := by simpa only [looks, Prod.mk.injEq] using l
  have t : topFrom treeTable pw w 2628 (shB w.params os) = some s₁ := by
    unfold topFrom
    dsimp only
    rw [z1, z2, z3, r]
    show (match staticsOk (importedModules pw.main.body) (boot_heap w.params) s₁.heap && namesBound pw s₁.heap && gensDone s₁ && laidKept (boot_heap w.params) s₁.heap with | true => _ | false => _) = _
    rw [l1]
  unfold openEnds
  rw [e]
  show (topFrom treeTable pw w 2628 _).map _ = _
  rw [t]
  exact congrArg some (Prod.ext ((seen_eq s₁).trans l2) l3)
end Mine

-- part 89
namespace Mine

theorem said : lw.wellSaid = true := (congrFun PySem.W.Fast.te9446332074065402090 lw).trans (by kernel_rfl)
theorem lawDef : (defOf vw lw.row.name).isSome = true := by kernel_rfl
noncomputable def dL : DefRec × List (Str × Expr) := (defOf vw lw.row.name).get lawDef
theorem hdef : defOf vw lw.row.name = some (dL.1, dL.2) := (Option.some_get lawDef).symm
theorem hpdef : lw.row.prog.theDef lw.row.name = some (dL.1.params, dL.1.body, dL.1.scope) := by kernel_rfl
theorem hkdef : kwWritten? dL.1.params.kwonlyargs dL.1.params.kw_defaults = some dL.2 := by kernel_rfl
theorem okL : (chainsOk vw && opensWell lw.row.prog && (frees lw.row.toRowW && lw.row.toRowW.within.isEmpty)) = true := by kernel_rfl
theorem bareL : lw.row.prog.bare := ⟨rfl, rfl, rfl, rfl, rfl, by decide +kernel⟩
theorem prom : lw.row.toRowW.promised := ⟨[.list []], by decide +kernel, by decide +kernel⟩
theorem hd (call : WalkO vw lse (XL vw []) hk.says lw.row.toRowW dL.1 dL.2 fun f vs => PySem.call f vs) : PySem.Challenge.rw_tc0021_01.Holds :=
  holds_law said fun said' => holds_open (Xt := xt) (Yf := hk.obs) (Ya := hk.val) (YP := hk.says) left hk.of hk.keeps (fun s e => xl_of s (Bool.and_eq_true_iff.mp e).1) XL.keeps hdef hpdef hkdef (fun s e => recFacts_of (Bool.and_eq_true_iff.mp e).2) rfl said' okL bareL prom call
end Mine

-- part 90
namespace Mine

section
variable {P : Params} {h : Heap}
theorem wh_obj (P : Params) : ∃ nm q bs sn sub col dd k0 k1 k2 k3 k5, (KF P).lookup 153 = some (excClassObj nm q 153 152 bs [.type "object"] true sn sub false col dd k0 k1 k2 k3 k5 "object.__new__") := ⟨_, _, _, _, _, _, _, _, _, _, _, _, rfl⟩
theorem wh_ns (P : Params) : ∃ o es ep, (KF P).lookup 152 = some o ∧ o.data = .dict es ep ∧ StrKeys es ∧ nsFind es "__init__" = some (.ref 108) ∧ nsFind es "longest_run_of_spaces" = some (.ref 115) ∧ nsFind es "indent_level" = some (.ref 122) ∧ nsFind es "less" = some (.ref 143) ∧ ∀ x ∈ wsNames, nsFind es x = none := by
  refine ⟨_, _, _, rfl, rfl, ?_, rfl, rfl, rfl, rfl, ?_⟩
  · intro e he
    simp only [List.mem_toArray, List.mem_cons, List.not_mem_nil, or_false] at he
    rcases he with rfl | rfl | rfl | rfl | rfl | rfl | rfl | rfl | rfl | rfl | rfl | rfl | rfl | rfl | rfl <;> exact ⟨_, _, rfl⟩
  · intro x hx
    simp only [wsNames, List.mem_cons, List.not_mem_nil, or_false] at hx
    rcases hx with rfl | rfl | rfl | rfl | rfl | rfl | rfl | rfl <;> rfl
theorem wh_main (P : Params) : ∃ o es ep, (KF P).lookup mainGlobals = some o ∧ o.data = .dict es ep ∧ nsFind es "Whitespace" = some (.ref 153) := ⟨_, _, _, rfl, rfl, rfl⟩
theorem fn_in (X : (KF P).In h) {a cd : Addr} {fd : FuncData} {q : Str} (hfd : (KF P).lookup a = some { cls := .type "function", data := .func fd })
    (hcd : ∃ o vs t, (KF P).lookup cd = some o ∧ o.data = .fields vs ∧ vs[1]? = some (.str q t)) (hc : fd.code = .ref cd) (hq : fd.qualname = q) (hg : fd.globals = mainGlobals) (hb : fd.builtins = builtinsNs) (hcl : fd.closure = []) : FnAt h a fd := by
  obtain ⟨o, vs, t, h1, h2, h3⟩ := hcd
  exact ⟨⟨_, X _ _ hfd, rfl⟩, ⟨cd, o, vs, t, hc, X _ _ h1, h2, hq ▸ h3⟩, hg, hb, hcl⟩
theorem at_init (X : (KF P).In h) : ∃ pm cd doc, FnAt h 108 (mdOf "__init__" pm cd doc) :=
  ⟨.str "cpy313.tabnanny" 291, .ref 107, .none, fn_in X rfl ⟨_, _, _, rfl, rfl, rfl⟩ rfl rfl rfl rfl rfl⟩
theorem at_long (X : (KF P).In h) : ∃ pm cd doc, FnAt h 115 (mdOf "longest_run_of_spaces" pm cd doc) :=
  ⟨.str "cpy313.tabnanny" 291, .ref 114, .none, fn_in X rfl ⟨_, _, _, rfl, rfl, rfl⟩ rfl rfl rfl rfl rfl⟩
theorem at_ind (X : (KF P).In h) : ∃ pm cd doc, FnAt h 122 (mdOf "indent_level" pm cd doc) :=
  ⟨.str "cpy313.tabnanny" 291, .ref 121, .none, fn_in X rfl ⟨_, _, _, rfl, rfl, rfl⟩ rfl rfl rfl rfl rfl⟩
theorem at_less (X : (KF P).In h) : ∃ pm cd doc, FnAt h 143 (mdOf "less" pm cd doc) :=
  ⟨.str "cpy313.tabnanny" 291, .ref 142, .none, fn_in X rfl ⟨_, _, _, rfl, rfl, rfl⟩ rfl rfl rfl rfl rfl⟩
theorem at_cls (P : Params) : ∀ f ∈ [(108 : Addr), 115, 122, 143], ∃ o, (KF P).lookup f = some o ∧ o.cls = .type "function" := by
  intro f hf
  simp only [List.mem_cons, List.not_mem_nil, or_false] at hf
  rcases hf with rfl | rfl | rfl | rfl <;> exact ⟨_, rfl, rfl⟩
end
end Mine

-- part 91
namespace Mine

section
variable {P : Params} {h : Heap} {prog : Program} {w : World}
theorem cls_reads (P : Params) : readsIn (KF P) 153 (.type "type") = true := by rfl
theorem find_S (P : Params) : findCls (KF P) (.ref 153) (.type "type") "S" = some (.val (.str " " 306)) := by rfl
theorem find_T (P : Params) : findCls (KF P) (.ref 153) (.type "type") "T" = some (.val (.str "\t" 307)) := by rfl
theorem keep_cls (P : Params) : keepIn (KF P) (.ref 153) = true := by rfl
theorem clsStr_S (X : (KF P).In h) : ClsStr prog w h 153 "S" " " := fun _ s _ _ hB hq =>
  cls_value (s := s) (X.keeps fun b o e => hB b o e) (cls_reads P) (find_S P) rfl (hq _)
theorem clsStr_T (X : (KF P).In h) : ClsStr prog w h 153 "T" "\t" := fun _ s _ _ hB hq =>
  cls_value (s := s) (X.keeps fun b o e => hB b o e) (cls_reads P) (find_T P) rfl (hq _)
theorem callee_cls (X : (KF P).In h) : Callee prog w h 153 := by
  intro A s E Q pos first args hw
  unfold callWith
  refine wpAny_bind (wpAny_holding (wpAny_mono hw (fun a s₁ h₁ => wpAny_bind (wpAny_standAt ?_)) fun _ _ x => x))
  obtain ⟨k, hk', L⟩ := keeps_K (M := model prog w) (keep_cls P) s₁.heap (X.keeps fun b o e => h₁.1 b o e)
  have tail : ∀ {t : Sem Value}, wpAny (model prog w) A t Q E s₁ → wpAny (model prog w) A (t >>= fun r => holding [r] point >>= fun _ => pure r) Q E s₁ :=
    fun ht => wpAny_bind (wpAny_mono ht (fun r s₂ hr => wpAny_bind (wpAny_holding (wpAny_point (wpAny_pure hr)))) fun _ _ x => x)
  have marked (mk : Value) : wpAny (model prog w) A (callMarked mk (.ref 153) (first ++ a.pos) a.kw) Q E s₁ := by unfold callMarked; exact Calls.wpAny_keep h₁.2
  cases hs : args.any (·.1) <;> simp only [List.any_nil, Bool.or_false] <;> refine wpAny_bind (L.here ?_) <;> rcases hk' with rfl | rfl | rfl <;> dsimp only <;> first
    | exact tail h₁.2
    | exact tail (marked _)
    | exact tail (wpAny_operate' h₁.2)
    | (split <;> first | exact tail h₁.2 | exact tail (marked _))
theorem base_facts : ∀ x ∈ bltNames, x ∉ startupNames ∧ x ∉ looseW vw lse ∧ x ∉ (recsOf vw).map (·.name) ∧ x ∉ (litsOf vw).map (·.1) ∧ x ∉ (clssOf vw (looseW vw lse)).map (·.name) := by decide +kernel
theorem ns_at {a : Addr} {m : Str → Option Value} {o : Obj} {es : Array DictEntry} {ep : Nat} {x : Str} {v : Value} (hn : h.Ns a m) (ho : h.get? a = some o) (hd : o.data = .dict es ep) (hx : nsFind es x = some v) : m x = some v := by
  obtain ⟨o', es', ep', h1, h2, _, h4⟩ := hn
  rw [ho] at h1; cases h1
  rw [hd] at h2; cases h2
  rw [← h4, hx]
end
end Mine

-- part 92
namespace Mine

noncomputable def RecAt (x : Str) : Prop := ∃ d ∈ recsOf vw, d.name = x ∧ d.params = (topDf x).params ∧ d.body = (topDf x).body ∧ d.scope = (topDf x).scope
theorem rec_at (x : Str) (h : ((recsOf vw).find? (fun d => d.name == x)).map (fun d => (d.name, d.params, d.body, d.scope)) = some (x, (topDf x).params, (topDf x).body, (topDf x).scope)) : RecAt x :=
  (Option.map_eq_some_iff.mp h).elim fun d h => ⟨d, List.mem_of_find?_eq_some h.1, congrArg (·.1) h.2, congrArg (·.2.1) h.2, congrArg (·.2.2.1) h.2, congrArg (·.2.2.2) h.2⟩
theorem recs_at : ∀ x ∈ ("law" : Str) :: fnNames, RecAt x :=
  List.forall_mem_cons.mpr ⟨rec_at "law" rfl, List.forall_mem_cons.mpr ⟨rec_at "_strip_quoted_realnames" rfl, List.forall_mem_cons.mpr ⟨rec_at "_check_parenthesis" rfl, List.forall_mem_cons.mpr ⟨rec_at "le" rfl, List.forall_mem_cons.mpr ⟨rec_at "ge" rfl, List.forall_mem_cons.mpr ⟨rec_at "gt" rfl, List.forall_mem_cons.mpr ⟨rec_at "add" rfl, List.forall_mem_cons.mpr ⟨rec_at "countOf" rfl, List.forall_mem_cons.mpr ⟨rec_at "getitem" rfl, List.forall_mem_cons.mpr ⟨rec_at "_law_page" rfl, List.forall_mem_cons.mpr ⟨rec_at "_law_ends" rfl, List.forall_mem_cons.mpr ⟨rec_at "_law_heads" rfl, List.forall_mem_cons.mpr ⟨rec_at "_law_table" rfl, List.forall_mem_cons.mpr ⟨rec_at "_law_moved" rfl, List.forall_mem_cons.mpr ⟨rec_at "_law_had" rfl, List.forall_mem_cons.mpr ⟨rec_at "_law_lines" rfl, List.forall_mem_cons.mpr ⟨rec_at "_law_nanny" rfl, List.forall_mem_cons.mpr ⟨rec_at "_law_mail" rfl, List.forall_mem_cons.mpr ⟨rec_at "_law_figures" rfl, List.forall_mem_cons.mpr ⟨rec_at "_law_read" rfl, List.forall_mem_cons.mpr ⟨rec_at "_iter_escaped_chars" rfl, List.forall_mem_cons.mpr ⟨rec_at "_parse_varint" rfl, fun _ h => nomatch h⟩⟩⟩⟩⟩⟩⟩⟩⟩⟩⟩⟩⟩⟩⟩⟩⟩⟩⟩⟩⟩⟩
theorem wd_top {prog : Program} {w : World} {h : Heap} {mg mb : Str → Option Value} {mean : ExcName → Option Value} {P : Params} (X : (KF P).In h) (T : Top vw (looseW vw lse) mean mg mb h) :
    ∃ mN, Wd prog w h 153 152 mN mg mb 108 115 122 143 := by
  obtain ⟨nm, q, bs, sn, sub, col, dd, k0, k1, k2, k3, k5, hC⟩ := wh_obj P
  obtain ⟨o, es, ep, hN, hd', hk, n1, n2, n3, n4, n5⟩ := wh_ns P
  obtain ⟨om, em, pm, hM, hdm, hW⟩ := wh_main P
  refine ⟨fun x => nsFind es x, ?_⟩
  refine ⟨base_top T base_facts, fun x hx => ?_, ⟨⟨nm, q, bs, sn, sub, col, dd, k0, k1, k2, k3, k5, X _ _ hC⟩, ⟨o, es, ep, X _ _ hN, hd', hk, fun _ => rfl⟩, n1, n2, n3, n4, n5, fun f hf => ?_⟩, ns_at T.g (X _ _ hM) hdm hW, callee_cls X, clsStr_S X, clsStr_T X, at_init X, at_long X, at_ind X, at_less X⟩
  · obtain ⟨d, hd, h1, h2, h3, h4⟩ := recs_at x (List.mem_cons_of_mem _ hx)
    exact fnAt_top T hd h1 h2 h3 h4
  · obtain ⟨o, h1, h2⟩ := at_cls P f hf
    exact ⟨o, X _ _ h1, h2⟩
end Mine

-- part 93
namespace Mine

theorem wellAll_ints {P : Params} {h : Heap} {C : Addr} {g : PH} : ∀ (L : List Int) (vs : List Value), WellAll P h vs (ofPys (L.map PyData.int)) → Reps C g vs (intsV L)
  | [], vs, hw => by
    unfold ofPys at hw
    cases hw
    exact .nil
  | x :: L, vs, hw => by
    rw [List.map_cons] at hw
    unfold ofPys at hw
    cases hw with
    | cons h1 h2 =>
      unfold ofPy at h1
      cases h1
      exact .cons (.int _ _) (wellAll_ints L _ h2)
theorem well_list {P : Params} {h : Heap} {a : Addr} {L : List Int} (hw : Well P h (.ref a) (ofPy (.list (L.map PyData.int)))) : ∃ vs, h.get? a = some (lstObj vs 0) ∧ ∀ C g, Reps C g vs (intsV L) := by
  unfold ofPy at hw
  cases hw with
  | list h1 h2 => exact ⟨_, h1, fun C g => wellAll_ints L _ h2⟩
end Mine
theorem PySem.Challenge.cw_tc0021_01_holds : PySem.Challenge.rw_tc0021_01.Holds := by
  refine Mine.hd ?_
  intro w s₀ s₁ mg mb G Y fa o pm cd doc dV kV ho hdat hcd hD hmg hg args vals as hpre hlay hrd hwl hlo
  have KX : (Mine.KF w.params).In s₁.heap := Y
  refine Ground.open G ?_
  intro T B D TE TW
  obtain ⟨mN, W⟩ := Mine.wd_top (prog := PySem.Challenge.rw_tc0021_01.row.prog) (w := w) KX T
  obtain ⟨d, hd1, h1, h2, h3, h4⟩ := Mine.recs_at "law" (by simp)
  obtain ⟨a', pm', cd', doc', hm', F⟩ := Mine.fnAt_top T hd1 h1 h2 h3 h4
  have hm2 : mg "law" = some (.ref fa) := hmg
  rw [hm2] at hm'
  cases hm'
  clear hdat hD hcd ho D TE TW B hd1 h1 h2 h3 h4 hm2 hmg
  wrow_args hpre hlay hrd hwl hlo
  rename_i L a1 a2 a3 a4 a5 a6 a7 l a8 a9 a10 a11 hW a12 a13 a14 hlen a15
  obtain ⟨vs, hl, hR⟩ := Mine.well_list hW
  have hL63 : L.length ≤ 63 := by omega
  show wpAny _ callerA (call (.ref fa) [.ref l]) _ _ s₁
  refine Mine.law_ok (A := callerA) (g := fun b => if b = l then s₁.heap.get? l else none) W F L hL63 ⟨rfl, by decide, by decide⟩ rfl (fun _ _ e => e) (fun b o e => ?_) (.cons (.list (show (if l = l then s₁.heap.get? l else none) = _ by rw [if_pos rfl]; exact hl) (hR _ _)) .nil) fun s' hk hr => ?_
  · replace e : (if b = l then s₁.heap.get? l else none) = some o := e
    by_cases hb : b = l
    · rw [if_pos hb] at e
      rw [hb]; exact e
    · rw [if_neg hb] at e; cases e
  · refine ⟨.inl ⟨.bool true, .bool true, [], rfl, ?_, .bool _, ?_, fun _ => ⟨.nil, by simp⟩⟩, .of_keep hk, hr.os, hr.bare (.of_eq hg)⟩
    · exact raisesW_false (by wrow_none_raised)
    · skip
      wrow_post
