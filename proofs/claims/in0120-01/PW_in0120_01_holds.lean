import PyProof.Rows.All
import Wide.All
import OpenK.AllK
import Wide.FinOn
import PySem.Challenge.RW_in0120_01
set_option Elab.async false
set_option maxRecDepth 100000
set_option maxHeartbeats 4000000
set_option linter.unusedSimpArgs false
set_option linter.unusedVariables false
namespace Mine
open PySem PySem.Calls

inductive AV where
  | none
  | bool (b : Bool)
  | int (i : Int)
  | str (s : Str)
  | tup (l : List AV)
  | lst (l : List AV)
  | list (a : Addr)
  | obj (a : Addr)
  | mis (c : Addr) (l : List AV)
  | val (v : Value)
  | bm (id : String) (a : AV)

noncomputable abbrev HP := List (Addr × List AV)
noncomputable abbrev keys (H : HP) : List Addr := H.map (·.1)
noncomputable abbrev lob (vs : Array Value) (n : Nat) : Obj := { cls := .type "list", data := .seq vs n }
noncomputable abbrev tob (vs : Array Value) (n : Nat) : Obj := { cls := .type "tuple", data := .seq vs n }

mutual
inductive VR (H : HP) (h : Heap) : AV → Value → Prop
  | none : VR H h .none .none
  | bool (b : Bool) : VR H h (.bool b) (.bool b)
  | int (i : Int) (t : Tok) : VR H h (.int i) (.int i t)
  | str (s : Str) (t : Tok) : VR H h (.str s) (.str s t)
  | tup {l : List AV} {a : Addr} {vs : Array Value} {n : Nat} : h.get? a = some (tob vs n) → VRs H h l vs.toList → VR H h (.tup l) (.ref a)
  | lst {l : List AV} {a : Addr} {vs : Array Value} {n : Nat} : a ∉ keys H → h.get? a = some (lob vs n) → VRs H h l vs.toList → VR H h (.lst l) (.ref a)
  | list (a : Addr) : VR H h (.list a) (.ref a)
  | obj {a : Addr} {o : Obj} : h.get? a = some o → o.cls = .type "object" → o.data = .plain → VR H h (.obj a) (.ref a)
  | mis {c : Addr} {l : List AV} {a : Addr} {o : Obj} {vs : Array Value} {n : Nat} : h.get? a = some o → o.cls = .ref c → o.data = .seq vs n → VRs H h l vs.toList → VR H h (.mis c l) (.ref a)
  | val (v : Value) : VR H h (.val v) v
  | bm {id : String} {a : AV} {c : Addr} {o : Obj} {v : Value} : h.get? c = some o → o.cls = .type "builtin_function_or_method" → o.data = .fields #[.builtin id, v] → VR H h a v → VR H h (.bm id a) (.ref c)
inductive VRs (H : HP) (h : Heap) : List AV → List Value → Prop
  | nil : VRs H h [] []
  | cons {a : AV} {l : List AV} {v : Value} {vs : List Value} : VR H h a v → VRs H h l vs → VRs H h (a :: l) (v :: vs)
end

noncomputable def Sh : AV → Value → Prop
  | .none, v => v = .none
  | .bool b, v => v = .bool b
  | .int i, v => ∃ t, v = .int i t
  | .str s, v => ∃ t, v = .str s t
  | .list a, v => v = .ref a
  | .val u, v => v = u
  | .obj a, v => v = .ref a
  | _, _ => True
theorem VR.sh {H : HP} {h : Heap} {a : AV} {v : Value} (r : VR H h a v) : Sh a v := by
  cases r <;> first | exact rfl | exact ⟨_, rfl⟩ | trivial
noncomputable def Same (h' : Heap) (b : Addr) (o : Obj) : Prop := h'.get? b = some o ∨ ((∃ es ep, o.data = .dict es ep) ∧ ∃ sl, h'.get? b = some { o with slots := sl })

theorem Same.trans {h₁ h₂ : Heap} {b : Addr} {o : Obj} (x : Same h₁ b o) (y : ∀ o', h₁.get? b = some o' → Same h₂ b o') : Same h₂ b o := by
  rcases x with x | ⟨hc, sl, x⟩
  · exact y o x
  · rcases y _ x with y | ⟨_, sl', y⟩
    · exact .inr ⟨hc, sl, y⟩
    · exact .inr ⟨hc, sl', y⟩
theorem Same.exact {h' : Heap} {b : Addr} {o : Obj} (x : Same h' b o) (hc : ∀ es ep, o.data ≠ .dict es ep) : h'.get? b = some o := x.resolve_right fun ⟨⟨es, ep, c⟩, _⟩ => hc es ep c
theorem Same.data {h' : Heap} {b : Addr} {o : Obj} (x : Same h' b o) : ∃ o', h'.get? b = some o' ∧ o'.cls = o.cls ∧ o'.data = o.data ∧ o'.dict = o.dict := by
  rcases x with x | ⟨_, sl, x⟩
  · exact ⟨o, x, rfl, rfl, rfl⟩
  · exact ⟨_, x, rfl, rfl, rfl⟩

structure Tr (W : Addr → Prop) (H : HP) (h : Heap) (H' : HP) (h' : Heap) : Prop where
  ev : ∀ b o, ¬ W b → h.get? b = some o → Same h' b o ∨ (b ∈ keys H ∧ (∃ vs n, o = lob vs n) ∧ ∃ vs n, h'.get? b = some (lob vs n))
  grow : ∀ b, b ∈ keys H' → b ∈ keys H ∨ h.get? b = none

noncomputable abbrev nowhere : Addr → Prop := fun _ => False

theorem Tr.refl (W : Addr → Prop) (H : HP) (h : Heap) : Tr W H h H h := ⟨fun _ _ _ e => .inl (.inl e), fun _ hb => .inl hb⟩
theorem Tr.keeps {W : Addr → Prop} {H : HP} {h h' : Heap} (k : ∀ b o, h.get? b = some o → h'.get? b = some o) : Tr W H h H h' := ⟨fun b o _ e => .inl (.inl (k b o e)), fun _ hb => .inl hb⟩
theorem Tr.wide {W W' : Addr → Prop} {H H' : HP} {h h' : Heap} (x : Tr W H h H' h') (hw : ∀ b, W b → W' b) : Tr W' H h H' h' := ⟨fun b o hb e => x.ev b o (fun q => hb (hw b q)) e, x.grow⟩
theorem Tr.there {W : Addr → Prop} {H H' : HP} {h h' : Heap} (x : Tr W H h H' h') {b : Addr} {o : Obj} (hb : ¬ W b) (e : h.get? b = some o) : ∃ o', h'.get? b = some o' := by
  rcases x.ev b o hb e with y | ⟨_, _, vs, n, y⟩
  · obtain ⟨o', y, _⟩ := y.data; exact ⟨o', y⟩
  · exact ⟨_, y⟩
theorem Tr.none_of {W : Addr → Prop} {H H' : HP} {h h' : Heap} (x : Tr W H h H' h') {b : Addr} (hb : ¬ W b) (e : h'.get? b = none) : h.get? b = none := by
  cases q : h.get? b with
  | none => rfl
  | some o => obtain ⟨o', y⟩ := x.there hb q; rw [e] at y; cases y
theorem Tr.trans {W : Addr → Prop} {H₀ H₁ H₂ : HP} {h₀ h₁ h₂ : Heap} (x : Tr W H₀ h₀ H₁ h₁) (y : Tr W H₁ h₁ H₂ h₂) (hW : ∀ b, W b → h₁.get? b = none → h₀.get? b = none) : Tr W H₀ h₀ H₂ h₂ := by
  refine ⟨fun b o hb e => ?_, fun b hb => ?_⟩
  · rcases x.ev b o hb e with s | ⟨k, lo, vs, n, e₁⟩
    · by_cases hk : b ∈ keys H₁ ∧ (∃ vs n, o = lob vs n)
      · obtain ⟨hk, vs, n, rfl⟩ := hk
        have hk₀ : b ∈ keys H₀ := (x.grow b hk).resolve_right fun q => by rw [q] at e; cases e
        have e₁ := s.exact (by simp [lob])
        rcases y.ev b _ hb e₁ with s₂ | ⟨_, _, vs', n', e₂⟩
        · exact .inl s₂
        · exact .inr ⟨hk₀, ⟨vs, n, rfl⟩, vs', n', e₂⟩
      · refine .inl (s.trans fun o' e' => ?_)
        rcases y.ev b o' hb e' with s₂ | ⟨k₂, ⟨vs, n, rfl⟩, _⟩
        · exact s₂
        · exfalso
          refine hk ⟨k₂, ?_⟩
          rcases s with s | ⟨hc, sl, s⟩
          · rw [s] at e'; cases e'; exact ⟨vs, n, rfl⟩
          · rw [s] at e'
            obtain ⟨es, ep, hc⟩ := hc
            have := congrArg (·.map Obj.data) e'
            simp [lob] at this
            rw [this] at hc; cases hc
    · rcases y.ev b _ hb e₁ with s₂ | ⟨_, _, vs', n', e₂⟩
      · exact .inr ⟨k, lo, vs, n, s₂.exact (by simp [lob])⟩
      · exact .inr ⟨k, lo, vs', n', e₂⟩
  · rcases y.grow b hb with q | q
    · exact x.grow b q
    · by_cases hw : W b
      · exact .inr (hW b hw q)
      · exact .inr (x.none_of hw q)
theorem Tr.trans' {H₀ H₁ H₂ : HP} {h₀ h₁ h₂ : Heap} (x : Tr nowhere H₀ h₀ H₁ h₁) (y : Tr nowhere H₁ h₁ H₂ h₂) : Tr nowhere H₀ h₀ H₂ h₂ := x.trans y fun _ hw => hw.elim

section
variable {W : Addr → Prop} {H H' : HP} {h h' : Heap}
theorem Tr.other (x : Tr W H h H' h') {b : Addr} {o : Obj} (hb : ¬ W b) (e : h.get? b = some o) (hn : ∀ vs n, o ≠ lob vs n) : Same h' b o :=
  (x.ev b o hb e).resolve_right fun ⟨_, ⟨vs, n, q⟩, _⟩ => hn vs n q
theorem Tr.frozen (x : Tr W H h H' h') {b : Addr} {o : Obj} (hb : ¬ W b) (e : h.get? b = some o) (hk : b ∉ keys H) : Same h' b o :=
  (x.ev b o hb e).resolve_right fun q => hk q.1
theorem Tr.unkey (x : Tr W H h H' h') {b : Addr} {o : Obj} (e : h.get? b = some o) (hk : b ∉ keys H) : b ∉ keys H' := fun q => by
  rcases x.grow b q with q | q
  · exact hk q
  · rw [q] at e; cases e
end

noncomputable abbrev Inert (o : Obj) : Prop := (∀ vs n, o.data ≠ .seq vs n) ∧ o.data ≠ .plain ∧ ∀ id v, o.data ≠ .fields #[.builtin id, v]
theorem VR.tr {W : Addr → Prop} {H H' : HP} {h h' : Heap} (x : Tr W H h H' h') (hW : ∀ b o, W b → h.get? b = some o → Inert o) {a : AV} {v : Value} (r : VR H h a v) : VR H' h' a v := by
  refine VR.rec (motive_1 := fun a v _ => VR H' h' a v) (motive_2 := fun l vs _ => VRs H' h' l vs) .none .bool .int .str ?_ ?_ .list ?_ ?_ .val ?_ .nil (fun _ _ i j => .cons i j) r
  · intro l a vs n e _ ih
    exact .tup ((x.other (fun q => (hW _ _ q e).1 vs n rfl) e (by intro vs' n' q; have := congrArg Obj.cls q; simp [lob, tob] at this)).exact (by simp [tob])) ih
  · intro l a vs n k e _ ih
    exact .lst (x.unkey e k) ((x.frozen (fun q => (hW _ _ q e).1 vs n rfl) e k).exact (by simp [lob])) ih
  · intro a o e c d
    exact .obj ((x.other (fun q => (hW _ _ q e).2.1 d) e (by intro vs n q; rw [q] at c; simp at c)).exact (by rw [d]; simp)) c d
  · intro c l a o vs n e c' d _ ih
    exact .mis ((x.other (fun q => (hW _ _ q e).1 vs n d) e (by intro vs n q; rw [q] at c'; simp [lob] at c')).exact (by rw [d]; simp)) c' d ih
  · intro id a c o v e c' d _ ih
    exact .bm ((x.other (fun q => (hW _ _ q e).2.2 _ _ d) e (by intro vs n q; rw [q] at c'; simp [lob] at c')).exact (by rw [d]; simp)) c' d ih
theorem VRs.rec' {H : HP} {h : Heap} {M : List AV → List Value → Prop} (n : M [] []) (c : ∀ {a l v vs}, VR H h a v → VRs H h l vs → M l vs → M (a :: l) (v :: vs)) {l : List AV} {vs : List Value} (r : VRs H h l vs) : M l vs :=
  VRs.rec (motive_1 := fun _ _ _ => True) (motive_2 := fun l vs _ => M l vs) trivial (fun _ => trivial) (fun _ _ => trivial) (fun _ _ => trivial) (fun _ _ _ => trivial) (fun _ _ _ _ => trivial) (fun _ => trivial) (fun _ _ _ => trivial) (fun _ _ _ _ _ => trivial) (fun _ => trivial) (fun _ _ _ _ _ => trivial) n (fun x r _ i => c x r i) r
theorem VRs.tr {W : Addr → Prop} {H H' : HP} {h h' : Heap} (x : Tr W H h H' h') (hW : ∀ b o, W b → h.get? b = some o → Inert o) {l : List AV} {vs : List Value} (r : VRs H h l vs) : VRs H' h' l vs :=
  r.rec' .nil fun y _ i => .cons (y.tr x hW) i
theorem noW {h : Heap} : ∀ b o, nowhere b → h.get? b = some o → Inert o := fun _ _ q => q.elim
theorem VR.tr' {H H' : HP} {h h' : Heap} (x : Tr nowhere H h H' h') {a : AV} {v : Value} (r : VR H h a v) : VR H' h' a v := r.tr x noW
theorem VRs.tr' {H H' : HP} {h h' : Heap} (x : Tr nowhere H h H' h') {l : List AV} {vs : List Value} (r : VRs H h l vs) : VRs H' h' l vs := r.tr x noW
theorem VRs.length {H : HP} {h : Heap} {l : List AV} {vs : List Value} (r : VRs H h l vs) : l.length = vs.length := r.rec' (M := fun l vs => l.length = vs.length) rfl fun _ _ i => congrArg (· + 1) i
theorem VRs.consInv {H : HP} {h : Heap} {a : AV} {l : List AV} {vs : List Value} (r : VRs H h (a :: l) vs) : ∃ v us, vs = v :: us ∧ VR H h a v ∧ VRs H h l us := by
  cases r with
  | cons x r => exact ⟨_, _, rfl, x, r⟩
theorem VRs.nilInv {H : HP} {h : Heap} {vs : List Value} (r : VRs H h [] vs) : vs = [] := by
  cases r; rfl
theorem VRs.get {H : HP} {h : Heap} {l : List AV} {vs : List Value} (r : VRs H h l vs) : ∀ {i : Nat} {a : AV}, l[i]? = some a → ∃ v, vs[i]? = some v ∧ VR H h a v :=
  r.rec' (M := fun l vs => ∀ {i : Nat} {a : AV}, l[i]? = some a → ∃ v, vs[i]? = some v ∧ VR H h a v) (fun {i a} e => by simp at e) fun {a l v vs} x _ ih {i b} e => by
    cases i with
    | zero => rw [List.getElem?_cons_zero] at e; cases e; exact ⟨v, rfl, x⟩
    | succ i => rw [List.getElem?_cons_succ] at e; exact ih e
theorem VRs.append {H : HP} {h : Heap} {l l' : List AV} {vs vs' : List Value} (r : VRs H h l vs) (y : VRs H h l' vs') : VRs H h (l ++ l') (vs ++ vs') := r.rec' (M := fun l vs => VRs H h (l ++ l') (vs ++ vs')) y fun x _ i => .cons x i
theorem VRs.snoc {H : HP} {h : Heap} {l : List AV} {a : AV} {vs : List Value} {v : Value} (x : VRs H h l vs) (y : VR H h a v) : VRs H h (l ++ [a]) (vs ++ [v]) := x.append (.cons y .nil)
theorem VRs.set {H : HP} {h : Heap} {a : AV} {v : Value} (y : VR H h a v) {l : List AV} {vs : List Value} (k : Nat) (r : VRs H h l vs) : VRs H h (l.set k a) (vs.set k v) :=
  r.rec' (M := fun l vs => ∀ k : Nat, VRs H h (l.set k a) (vs.set k v)) (fun _ => .nil) (fun x r i k => by cases k with | zero => exact .cons y r | succ k => exact .cons x (i k)) k
theorem VRs.eraseIdx {H : HP} {h : Heap} {l : List AV} {vs : List Value} (k : Nat) (r : VRs H h l vs) : VRs H h (l.eraseIdx k) (vs.eraseIdx k) :=
  r.rec' (M := fun l vs => ∀ k : Nat, VRs H h (l.eraseIdx k) (vs.eraseIdx k)) (fun _ => .nil) (fun x r i k => by cases k with | zero => exact r | succ k => exact .cons x (i k)) k

structure GB where
  heap : Heap
  live : List Addr
noncomputable abbrev GB.get? (B : GB) (a : Addr) : Option Obj := B.heap.get? a
noncomputable abbrev GB.more (B : GB) (L : Addr) : GB := ⟨B.heap, L :: B.live⟩
structure HR (B : GB) (H : HP) (h : Heap) : Prop where
  keep : ∀ b o, B.get? b = some o → h.get? b = some o
  list : ∀ p, p ∈ H → ∃ vs n, h.get? p.1 = some (lob vs n) ∧ VRs H h p.2 vs.toList
  new : ∀ b, b ∈ keys H → B.get? b = none
  nodup : (keys H).Nodup
  alive : ∀ L, L ∈ B.live → ∃ m, h.Ns L m

theorem HR.keeps {B : GB} {H : HP} {h h' : Heap} (x : HR B H h) (k : ∀ b o, h.get? b = some o → h'.get? b = some o) : HR B H h' :=
  ⟨fun b o e => k b o (x.keep b o e), fun p hp => let ⟨vs, n, e, r⟩ := x.list p hp; ⟨vs, n, k _ _ e, r.tr' (.keeps k)⟩, x.new, x.nodup, fun L hL => let ⟨m, hm⟩ := x.alive L hL; ⟨m, hm.keeps k⟩⟩
theorem HR.empty {B : GB} {h : Heap} (k : ∀ b o, B.get? b = some o → h.get? b = some o) (al : ∀ L, L ∈ B.live → ∃ m, h.Ns L m) : HR B [] h := ⟨k, fun _ hp => (nomatch hp), fun _ hb => (nomatch hb), List.nodup_nil, al⟩

noncomputable abbrev Loc := List (Str × AV)
noncomputable def lk : Loc → Str → Option AV
  | [], _ => none
  | p :: l, x => if x = p.1 then some p.2 else lk l x
noncomputable def put : Loc → Str → AV → Loc
  | [], x, a => [(x, a)]
  | p :: l, x, a => if x = p.1 then (p.1, a) :: l else p :: put l x a
theorem lk_put (l : Loc) (x : Str) (a : AV) (y : Str) : lk (put l x a) y = if y = x then some a else lk l y := by
  induction l with
  | nil => simp [put, lk]
  | cons p l ih =>
    unfold put
    by_cases h : x = p.1
    · rw [if_pos h]
      subst h
      unfold lk
      by_cases q : y = p.1 <;> simp [q]
    · rw [if_neg h]
      unfold lk
      rw [ih]
      by_cases q : y = p.1
      · have : y ≠ x := fun e => h (e.symm.trans q)
        simp [q, Ne.symm h]
      · simp [q]

theorem ift {P Q : Prop} (h : if true = true then P else Q) : P := h
theorem ifn {P Q : Prop} (h : if false = true then P else Q) : Q := h
end Mine
namespace Mine
open PySem PySem.Calls

structure FR (H : HP) (env : Env) (l : Loc) (h : Heap) : Prop where
  kind : env.scope.kind = .function
  glob : env.globals = mainGlobals
  blt : env.builtins = builtinsNs
  ns : ∃ m, h.Ns env.locals m ∧ ∀ x a, lk l x = some a → env.kindOf x = some .local → ∃ v, m x = some v ∧ VR H h a v
  cell : ∀ x a, lk l x = some a → env.kindOf x = some .cell → ∃ c v, env.cells.lookup x = some c ∧ h.IsCell c (some v) ∧ VR H h a v

noncomputable def own (env : Env) (b : Addr) : Prop := b = env.locals ∨ (env.func.isSome = true ∧ ∃ x, env.cells.lookup x = some b)

structure FW (B : GB) (H : HP) (env : Env) (l : Loc) (h : Heap) : Prop extends FR H env l h where
  newL : B.get? env.locals = none
  cells : env.func.isSome = true → ∀ x c, env.cells.lookup x = some c → (∃ vo, h.IsCell c vo) ∧ B.get? c = none ∧ c ≠ env.locals
  apart : env.func.isSome = true → ∀ x y c, env.cells.lookup x = some c → env.cells.lookup y = some c → x = y
  all : env.func.isSome = true → ∀ x, env.kindOf x = some .cell → ∃ c, env.cells.lookup x = some c

theorem ns_not_list {h : Heap} {L : Addr} {m : Str → Option Value} (hn : h.Ns L m) {o : Obj} (e : h.get? L = some o) : Inert o := by
  obtain ⟨o', es, ep, ho, hd, _⟩ := hn
  rw [ho] at e; cases e
  exact ⟨fun vs n q => (by rw [hd] at q; cases q), fun q => (by rw [hd] at q; cases q), fun id v q => (by rw [hd] at q; cases q)⟩
theorem cell_not_list {h : Heap} {c : Addr} {vo : Option Value} (hn : h.IsCell c vo) {o : Obj} (e : h.get? c = some o) : Inert o := by
  obtain ⟨o', ho, hd⟩ := hn
  rw [ho] at e; cases e
  exact ⟨fun vs n q => (by rw [hd] at q; cases q), fun q => (by rw [hd] at q; cases q), fun id v q => (by rw [hd] at q; cases q)⟩
theorem Tr.ns {W : Addr → Prop} {H H' : HP} {h h' : Heap} (x : Tr W H h H' h') {L : Addr} {m : Str → Option Value} (hL : ¬ W L) (hn : h.Ns L m) : h'.Ns L m := by
  obtain ⟨o, es, ep, ho, hd, hk, hf⟩ := id hn
  obtain ⟨o', e', _, d', _⟩ := (x.other hL ho (fun vs n q => (ns_not_list hn ho).1 vs n (by rw [q]))).data
  exact ⟨o', es, ep, e', d'.trans hd, hk, hf⟩
theorem Tr.isCell {W : Addr → Prop} {H H' : HP} {h h' : Heap} (x : Tr W H h H' h') {c : Addr} {vo : Option Value} (hc : ¬ W c) (hn : h.IsCell c vo) : h'.IsCell c vo := by
  obtain ⟨o, ho, hd⟩ := id hn
  obtain ⟨o', e', _, d', _⟩ := (x.other hc ho (fun vs n q => (cell_not_list hn ho).1 vs n (by rw [q]))).data
  exact ⟨o', e', d'.trans hd⟩
theorem FR.tr {H H' : HP} {env : Env} {l : Loc} {h h' : Heap} (x : Tr nowhere H h H' h') (F : FR H env l h) : FR H' env l h' where
  kind := F.kind
  glob := F.glob
  blt := F.blt
  ns := let ⟨m, hn, hv⟩ := F.ns; ⟨m, x.ns id hn, fun y a e k => let ⟨v, e', r⟩ := hv y a e k; ⟨v, e', r.tr' x⟩⟩
  cell := fun y a e k => let ⟨c, v, e', hc, r⟩ := F.cell y a e k; ⟨c, v, e', x.isCell id hc, r.tr' x⟩
theorem FW.tr {B : GB} {H H' : HP} {env : Env} {l : Loc} {h h' : Heap} (x : Tr nowhere H h H' h') (F : FW B H env l h) : FW B H' env l h' where
  toFR := F.toFR.tr x
  newL := F.newL
  cells := fun z y c e => let ⟨⟨vo, q⟩, r⟩ := F.cells z y c e; ⟨⟨vo, x.isCell id q⟩, r⟩
  apart := F.apart
  all := F.all

noncomputable def Post (B : GB) (s : Shared) (H : HP) (P : AV → HP → Prop) : Value → Shared → Prop := fun v s' =>
  ∃ a H' h' tk, s' = { s with heap := h', toks := tk } ∧ P a H' ∧ VR H' h' a v ∧ HR B H' h' ∧ Tr nowhere H s.heap H' h'
noncomputable def PostL (B : GB) (s : Shared) (H : HP) (P : List AV → HP → Prop) : List Value → Shared → Prop := fun vs s' =>
  ∃ as H' h' tk, s' = { s with heap := h', toks := tk } ∧ P as H' ∧ VRs H' h' as vs ∧ HR B H' h' ∧ Tr nowhere H s.heap H' h'
noncomputable def PostB (B : GB) (s : Shared) (H : HP) (P : Bool → HP → Prop) : Bool → Shared → Prop := fun b s' =>
  ∃ H' h' tk, s' = { s with heap := h', toks := tk } ∧ P b H' ∧ HR B H' h' ∧ Tr nowhere H s.heap H' h'

section
variable {B : GB} {s : Shared} {H H₁ : HP} {P P' : AV → HP → Prop}
theorem Post.mono {v : Value} {s' : Shared} (x : Post B s H P v s') (h : ∀ a H', P a H' → P' a H') : Post B s H P' v s' :=
  let ⟨a, H', h', tk, e, p, r⟩ := x; ⟨a, H', h', tk, e, h a H' p, r⟩
theorem Post.trans {h₁ : Heap} {tk₁ : Nat} {v : Value} {s' : Shared} (x : Tr nowhere H s.heap H₁ h₁) (y : Post B { s with heap := h₁, toks := tk₁ } H₁ P v s') : Post B s H P v s' := by
  obtain ⟨a, H', h', tk, e, p, r, hr, t⟩ := y
  exact ⟨a, H', h', tk, by rw [e], p, r, hr, x.trans' t⟩
theorem PostB.trans {P : Bool → HP → Prop} {h₁ : Heap} {tk₁ : Nat} {v : Bool} {s' : Shared} (x : Tr nowhere H s.heap H₁ h₁) (y : PostB B { s with heap := h₁, toks := tk₁ } H₁ P v s') : PostB B s H P v s' := by
  obtain ⟨H', h', tk, e, p, hr, t⟩ := y
  exact ⟨H', h', tk, by rw [e], p, hr, x.trans' t⟩
theorem Post.tok {a : AV} {v : Value} {tk : Nat} (p : P a H) (r : VR H s.heap a v) (hr : HR B H s.heap) : Post B s H P v { s with toks := tk } := ⟨a, H, s.heap, tk, rfl, p, r, hr, .refl ..⟩
theorem Post.here {a : AV} {v : Value} (p : P a H) (r : VR H s.heap a v) (hr : HR B H s.heap) : Post B s H P v s := ⟨a, H, s.heap, s.toks, rfl, p, r, hr, .refl ..⟩
theorem Post.grown {a : AV} {v : Value} {h' : Heap} {tk : Nat} (k : ∀ b o, s.heap.get? b = some o → h'.get? b = some o) (p : P a H) (r : VR H h' a v) (hr : HR B H s.heap) :
    Post B s H P v { s with heap := h', toks := tk } := ⟨a, H, h', tk, rfl, p, r, hr.keeps k, .keeps k⟩
theorem PostB.tok {P : Bool → HP → Prop} {b : Bool} {tk : Nat} (p : P b H) (hr : HR B H s.heap) : PostB B s H P b { s with toks := tk } := ⟨H, s.heap, tk, rfl, p, hr, .refl ..⟩
theorem PostB.here {P : Bool → HP → Prop} {b : Bool} (p : P b H) (hr : HR B H s.heap) : PostB B s H P b s := ⟨H, s.heap, s.toks, rfl, p, hr, .refl ..⟩
end

section
variable (prog : Program) (w : World) (B : GB) (A : Around) (env : Env) (l : Loc)
structure EX (e : Expr) (H : HP) (P : AV → HP → Prop) : Prop where
  run : ∀ (s : Shared) (E : Value → Shared → Prop), HR B H s.heap → FR H env l s.heap → wpAny (model prog w) A (eval e env) (Post B s H P) E s
structure TX (e : Expr) (H : HP) (P : Bool → HP → Prop) : Prop where
  run : ∀ (s : Shared) (E : Value → Shared → Prop), HR B H s.heap → FR H env l s.heap → wpAny (model prog w) A (isTrue e env (eval e env)) (PostB B s H P) E s
structure EL (pos : Pos) (es : List Expr) (H : HP) (P : List AV → HP → Prop) : Prop where
  run : ∀ (s : Shared) (E : Value → Shared → Prop), HR B H s.heap → FR H env l s.heap → wpAny (model prog w) A (spliced (backTo pos (starEach es env))) (PostL B s H P) E s
structure OP (H : HP) (as : List AV) (t : List Value → Sem Value) (P : AV → HP → Prop) : Prop where
  run : ∀ (s : Shared) (E : Value → Shared → Prop) (vs : List Value), HR B H s.heap → VRs H s.heap as vs → wpAny (model prog w) A (t vs) (Post B s H P) E s
structure OPB (H : HP) (as : List AV) (t : List Value → Sem Bool) (P : Bool → HP → Prop) : Prop where
  run : ∀ (s : Shared) (E : Value → Shared → Prop) (vs : List Value), HR B H s.heap → VRs H s.heap as vs → wpAny (model prog w) A (t vs) (PostB B s H P) E s
end

noncomputable abbrev bin (t : Value → Value → Sem Value) : List Value → Sem Value
  | [a, b] => t a b
  | _ => .unsupported ""
noncomputable abbrev un (t : Value → Sem Value) : List Value → Sem Value
  | [a] => t a
  | _ => .unsupported ""
noncomputable abbrev unB (t : Value → Sem Bool) : List Value → Sem Bool
  | [a] => t a
  | _ => .unsupported ""

noncomputable abbrev KOp1 (prog : Program) (w : World) (B : GB) (A : Around) (t : List Value → Sem Value) (P : AV → HP → Prop) (a : AV) (H₁ : HP) : Prop := OP prog w B A H₁ [a] t P
noncomputable abbrev KOp2 (prog : Program) (w : World) (B : GB) (A : Around) (t : List Value → Sem Value) (P : AV → HP → Prop) (a b : AV) (H₂ : HP) : Prop := OP prog w B A H₂ [a, b] t P
noncomputable abbrev KOps (prog : Program) (w : World) (B : GB) (A : Around) (t : List Value → Sem Value) (P : AV → HP → Prop) (as : List AV) (H₂ : HP) : Prop := OP prog w B A H₂ as t P
noncomputable abbrev KSnd (prog : Program) (w : World) (B : GB) (A : Around) (env : Env) (t : List Value → Sem Value) (l : Loc) (y : Expr) (P : AV → HP → Prop) (a : AV) (H₁ : HP) : Prop := EX prog w B A env l y H₁ (KOp2 prog w B A t P a)
noncomputable abbrev KTruth (prog : Program) (w : World) (B : GB) (A : Around) (P : Bool → HP → Prop) (a : AV) (H₁ : HP) : Prop := OPB prog w B A H₁ [a] (unB truthy) P
noncomputable abbrev KNot (P : Bool → HP → Prop) (b : Bool) (H₁ : HP) : Prop := P (!b) H₁
noncomputable abbrev KAnd (prog : Program) (w : World) (B : GB) (A : Around) (env : Env) (l : Loc) (y : Expr) (P : Bool → HP → Prop) (b : Bool) (H₁ : HP) : Prop := if b = true then TX prog w B A env l y H₁ P else P false H₁
noncomputable abbrev KOr (prog : Program) (w : World) (B : GB) (A : Around) (env : Env) (l : Loc) (y : Expr) (P : Bool → HP → Prop) (b : Bool) (H₁ : HP) : Prop := if b = true then P true H₁ else TX prog w B A env l y H₁ P
noncomputable abbrev KIfX (prog : Program) (w : World) (B : GB) (A : Around) (env : Env) (l : Loc) (body orelse : Expr) (P : AV → HP → Prop) (b : Bool) (H₁ : HP) : Prop := if b = true then EX prog w B A env l body H₁ P else EX prog w B A env l orelse H₁ P
noncomputable abbrev KConsP (P : List AV → HP → Prop) (a : AV) (as : List AV) (H₂ : HP) : Prop := P (a :: as) H₂
noncomputable abbrev KCons (prog : Program) (w : World) (B : GB) (A : Around) (env : Env) (l : Loc) (pos : Pos) (rest : List Expr) (P : List AV → HP → Prop) (a : AV) (H₁ : HP) : Prop := EL prog w B A env l pos rest H₁ (KConsP P a)
noncomputable abbrev BoolIs (P : Bool → HP → Prop) (r : AV) (H₃ : HP) : Prop := ∃ c, r = .bool c ∧ P c H₃

section
variable {prog : Program} {w : World} {B : GB} {A : Around} {env : Env} {l : Loc} {H : HP} {P : AV → HP → Prop}

theorem use {t : Sem Value} {K : Value → Shared → Prop} {s : Shared} {E : Value → Shared → Prop} {P₁ : AV → HP → Prop} (h : wpAny (model prog w) A t (Post B s H P₁) E s)
    (k : ∀ a v H₁ h₁ tk₁, P₁ a H₁ → VR H₁ h₁ a v → HR B H₁ h₁ → Tr nowhere H s.heap H₁ h₁ → K v { s with heap := h₁, toks := tk₁ }) : wpAny (model prog w) A t K E s :=
  wpAny_mono h (fun v s' x => by
    obtain ⟨a, H₁, h₁, tk₁, rfl, p, r, hr, t₁⟩ := x
    exact k a v H₁ h₁ tk₁ p r hr t₁) fun _ _ e => e
theorem useL {t : Sem (List Value)} {K : List Value → Shared → Prop} {s : Shared} {E : Value → Shared → Prop} {P₁ : List AV → HP → Prop} (h : wpAny (model prog w) A t (PostL B s H P₁) E s)
    (k : ∀ a v H₁ h₁ tk₁, P₁ a H₁ → VRs H₁ h₁ a v → HR B H₁ h₁ → Tr nowhere H s.heap H₁ h₁ → K v { s with heap := h₁, toks := tk₁ }) : wpAny (model prog w) A t K E s :=
  wpAny_mono h (fun v s' x => by
    obtain ⟨a, H₁, h₁, tk₁, rfl, p, r, hr, t₁⟩ := x
    exact k a v H₁ h₁ tk₁ p r hr t₁) fun _ _ e => e
theorem useB {t : Sem Bool} {K : Bool → Shared → Prop} {s : Shared} {E : Value → Shared → Prop} {P₁ : Bool → HP → Prop} (h : wpAny (model prog w) A t (PostB B s H P₁) E s)
    (k : ∀ b H₁ h₁ tk₁, P₁ b H₁ → HR B H₁ h₁ → Tr nowhere H s.heap H₁ h₁ → K b { s with heap := h₁, toks := tk₁ }) : wpAny (model prog w) A t K E s :=
  wpAny_mono h (fun v s' x => by
    obtain ⟨H₁, h₁, tk₁, rfl, p, hr, t₁⟩ := x
    exact k v H₁ h₁ tk₁ p hr t₁) fun _ _ e => e
theorem back {t : Sem Value} {s : Shared} {E : Value → Shared → Prop} {H₁ : HP} {h₁ : Heap} {tk₁ : Nat} (x : Tr nowhere H s.heap H₁ h₁)
    (h : wpAny (model prog w) A t (Post B { s with heap := h₁, toks := tk₁ } H₁ P) E { s with heap := h₁, toks := tk₁ }) : wpAny (model prog w) A t (Post B s H P) E { s with heap := h₁, toks := tk₁ } :=
  wpAny_mono h (fun _ _ y => y.trans x) fun _ _ e => e
theorem backB {t : Sem Bool} {s : Shared} {E : Value → Shared → Prop} {P : Bool → HP → Prop} {H₁ : HP} {h₁ : Heap} {tk₁ : Nat} (x : Tr nowhere H s.heap H₁ h₁)
    (h : wpAny (model prog w) A t (PostB B { s with heap := h₁, toks := tk₁ } H₁ P) E { s with heap := h₁, toks := tk₁ }) : wpAny (model prog w) A t (PostB B s H P) E { s with heap := h₁, toks := tk₁ } :=
  wpAny_mono h (fun _ _ y => y.trans x) fun _ _ e => e
theorem EX.mono {e : Expr} {P' : AV → HP → Prop} (h : EX prog w B A env l e H P) (hp : ∀ a H', P a H' → P' a H') : EX prog w B A env l e H P' :=
  .mk fun s E hr F => wpAny_mono (h.run s E hr F) (fun _ _ x => x.mono hp) fun _ _ e => e

theorem ex_int {i : Int} {k : Nat} {pos : Pos} (p : P (.int i) H) : EX prog w B A env l (.Constant (.int i) k pos) H P := .mk fun _ _ hr _ => wpAny_Constant_int (.tok p (.int ..) hr)
theorem ex_str {x : Str} {k : Nat} {pos : Pos} (p : P (.str x) H) : EX prog w B A env l (.Constant (.str x) k pos) H P := .mk fun _ _ hr _ => wpAny_Constant_str (.tok p (.str ..) hr)
theorem ex_none {k : Nat} {pos : Pos} (p : P .none H) : EX prog w B A env l (.Constant .none k pos) H P := .mk fun _ _ hr _ => wpAny_Constant_none (.here p .none hr)
theorem ex_bool {b : Bool} {k : Nat} {pos : Pos} (p : P (.bool b) H) : EX prog w B A env l (.Constant (.bool b) k pos) H P := .mk fun _ _ hr _ => wpAny_Constant_bool (.here p (.bool b) hr)
theorem ex_local {x : Str} {pos : Pos} {a : AV} (hx : env.kindOf x = some .local) (hl : lk l x = some a) (p : P a H) (hd : (x == ("__debug__" : Str)) = false := by decide) :
    EX prog w B A env l (.Name x pos) H P := .mk fun s E hr F => by
  obtain ⟨m, hn, hv⟩ := F.ns
  obtain ⟨v, e, r⟩ := hv x a hl hx
  exact wpAny_Name (wpAny_loadName_local F.kind hx hn e (.here p r hr)) hd
theorem ex_cell {x : Str} {pos : Pos} {a : AV} (hx : env.kindOf x = some .cell) (hl : lk l x = some a) (p : P a H) (hd : (x == ("__debug__" : Str)) = false := by decide) :
    EX prog w B A env l (.Name x pos) H P := .mk fun s E hr F => by
  obtain ⟨c, v, e, hc, r⟩ := F.cell x a hl hx
  exact wpAny_Name (wpAny_loadName_cell F.kind hx e hc (.here p r hr)) hd

structure Base (B : GB) (gl : Str → Option Value) : Prop where
  g : B.heap.Ns mainGlobals gl
  b : ∃ mb, B.heap.Ns builtinsNs mb ∧ ∀ x : Str, x ≠ "__name__" → mb x = bootBuiltins x
  nolimit : B.heap.NoLimit
  nodigits : ∃ mc, B.heap.Ns cStatics mc ∧ mc "sys.int_max_str_digits" = none

theorem ex_global {gl : Str → Option Value} (hB : Base B gl) {x : Str} {pos : Pos} {v : Value} {a : AV} (hx : env.kindOf x = some .globalImplicit) (hv : gl x = some v) (hr : ∀ h, HR B H h → VR H h a v) (p : P a H)
    (hd : (x == ("__debug__" : Str)) = false := by decide) : EX prog w B A env l (.Name x pos) H P := .mk fun s E hr' F => by
  exact Name_function_global F.kind hx (loadGlobal_global (F.glob ▸ hB.g.keeps hr'.keep) hv (.here p (hr _ hr') hr')) hd
theorem ex_builtin {gl : Str → Option Value} (hB : Base B gl) {x : Str} {pos : Pos} {v : Value} (hx : env.kindOf x = some .globalImplicit) (hv : gl x = none) (hb : bootBuiltins x = some v) (p : P (.val v) H)
    (hn : x ≠ "__name__" := by decide) (hd : (x == ("__debug__" : Str)) = false := by decide) : EX prog w B A env l (.Name x pos) H P := .mk fun s E hr' F => by
  obtain ⟨mb, b1, b2⟩ := hB.b
  exact Name_function_global F.kind hx (loadGlobal_builtin (F.glob ▸ hB.g.keeps hr'.keep) hv (F.blt ▸ b1.keeps hr'.keep) ((b2 x hn).trans hb) (.here p (.val v) hr')) hd

theorem ex_binop {x y : Expr} {op : Operator} {pos : Pos}
    (h : EX prog w B A env l x H (KSnd prog w B A env (bin (binaryOp op)) l y P)) : EX prog w B A env l (.BinOp x op y pos) H P := .mk fun s E hr F =>
  wpAny_BinOp (use (h.run s E hr F) fun _ v _ _ _ p r hr₁ t₁ => use (p.run _ E hr₁ (F.tr t₁)) fun _ u _ _ _ p₂ r₂ hr₂ t₂ => back (t₁.trans' t₂) (p₂.run _ E [v, u] hr₂ (.cons (r.tr' t₂) (.cons r₂ .nil))))
theorem ex_cmp1 {x y : Expr} {op : CmpOp} {pos : Pos}
    (h : EX prog w B A env l x H (KSnd prog w B A env (bin (compareOp op)) l y P)) (hm : behindInMarks op y = false := by with_unfolding_all rfl) : EX prog w B A env l (.Compare x [op] [y] pos) H P := .mk fun s E hr F =>
  wpAny_Compare1 (use (h.run s E hr F) fun _ v _ _ _ p r hr₁ t₁ => use (p.run _ E hr₁ (F.tr t₁)) fun _ u _ _ _ p₂ r₂ hr₂ t₂ => back (t₁.trans' t₂) (p₂.run _ E [v, u] hr₂ (.cons (r.tr' t₂) (.cons r₂ .nil)))) hm
theorem ex_unary {x : Expr} {op : UnaryOp} {pos : Pos} (h : EX prog w B A env l x H (KOp1 prog w B A (un (unaryOp op)) P)) : EX prog w B A env l (.UnaryOp op x pos) H P := .mk fun s E hr F =>
  wpAny_UnaryOp (use (h.run s E hr F) fun _ v _ _ _ p r hr₁ t₁ => back t₁ (p.run _ E [v] hr₁ (.cons r .nil)))
theorem ex_ifexp {test body orelse : Expr} {pos : Pos}
    (h : TX prog w B A env l test H (KIfX prog w B A env l body orelse P)) : EX prog w B A env l (.IfExp test body orelse pos) H P := .mk fun s E hr F =>
  wpAny_IfExp (useB (h.run s E hr F) fun b _ _ _ p hr₁ t₁ => by
    cases b with
    | true => exact back t₁ ((ift p).run _ E hr₁ (F.tr t₁))
    | false => exact back t₁ ((ifn p).run _ E hr₁ (F.tr t₁)))
end

section
variable {prog : Program} {w : World} {B : GB} {A : Around} {env : Env} {l : Loc} {H : HP} {P : Bool → HP → Prop}
theorem tx_cmp1 {x y : Expr} {op : CmpOp} {pos : Pos}
    (h : EX prog w B A env l x H (KSnd prog w B A env (bin (compareOp op)) l y (BoolIs P))) (hm : behindInMarks op y = false := by with_unfolding_all rfl) :
    TX prog w B A env l (.Compare x [op] [y] pos) H P := .mk fun s E hr F =>
  wpAny_isTrue_Compare1 (use (h.run s E hr F) fun _ v _ _ _ p r hr₁ t₁ => use (p.run _ E hr₁ (F.tr t₁)) fun _ u _ _ _ p₂ r₂ hr₂ t₂ =>
    use (p₂.run _ E [v, u] hr₂ (.cons (r.tr' t₂) (.cons r₂ .nil))) fun a v H₃ h₃ tk₃ p₃ r₃ hr₃ t₃ => by
      obtain ⟨c, rfl, p₃⟩ := p₃
      (first | obtain ⟨_, rfl⟩ := r₃.sh | obtain rfl := r₃.sh)
      exact wpAny_truthy_bool ⟨H₃, h₃, tk₃, rfl, p₃, hr₃, (t₁.trans' t₂).trans' t₃⟩) hm
theorem tx_not {x : Expr} {pos : Pos} (h : TX prog w B A env l x H (KNot P)) : TX prog w B A env l (.UnaryOp .Not x pos) H P := .mk fun s E hr F =>
  wpAny_isTrue_Not (useB (h.run s E hr F) fun _ H₁ h₁ tk₁ p hr₁ t₁ => ⟨H₁, h₁, tk₁, rfl, p, hr₁, t₁⟩)
theorem tx_value {e : Expr} (h : EX prog w B A env l e H (KTruth prog w B A P)) (he : isTrue e env (eval e env) = (do let v ← eval e env; standAt e.pos; holding [v] (truthy v)) := by rfl) : TX prog w B A env l e H P := .mk fun s E hr F =>
  wpAny_isTrue_value (use (h.run s E hr F) fun _ v _ _ _ p r hr₁ t₁ => backB t₁ (p.run _ E [v] hr₁ (.cons r .nil))) he
theorem tx_and2 {x y : Expr} {pos : Pos} (h : TX prog w B A env l x H (KAnd prog w B A env l y P)) : TX prog w B A env l (.BoolOp .And [x, y] pos) H P := .mk fun s E hr F =>
  wpAny_isTrue_BoolOp (wpAny_allTrue_And_cons (useB (h.run s E hr F) fun b H₁ h₁ tk₁ p hr₁ t₁ => by
    cases b with
    | false => exact ⟨H₁, h₁, tk₁, rfl, p, hr₁, t₁⟩
    | true => exact wpAny_allTrue_And_cons (useB ((ift p).run _ E hr₁ (F.tr t₁)) fun b H₂ h₂ tk₂ p hr₂ t₂ => by
        cases b with
        | false => exact ⟨H₂, h₂, tk₂, rfl, p, hr₂, t₁.trans' t₂⟩
        | true => exact wpAny_allTrue_And_nil ⟨H₂, h₂, tk₂, rfl, p, hr₂, t₁.trans' t₂⟩)))
theorem tx_or2 {x y : Expr} {pos : Pos} (h : TX prog w B A env l x H (KOr prog w B A env l y P)) : TX prog w B A env l (.BoolOp .Or [x, y] pos) H P := .mk fun s E hr F =>
  wpAny_isTrue_BoolOp (wpAny_allTrue_Or_cons (useB (h.run s E hr F) fun b H₁ h₁ tk₁ p hr₁ t₁ => by
    cases b with
    | true => exact ⟨H₁, h₁, tk₁, rfl, p, hr₁, t₁⟩
    | false => exact wpAny_allTrue_Or_cons (useB ((ifn p).run _ E hr₁ (F.tr t₁)) fun b H₂ h₂ tk₂ p hr₂ t₂ => by
        cases b with
        | true => exact ⟨H₂, h₂, tk₂, rfl, p, hr₂, t₁.trans' t₂⟩
        | false => exact wpAny_allTrue_Or_nil ⟨H₂, h₂, tk₂, rfl, p, hr₂, t₁.trans' t₂⟩)))
theorem opb_bool {b : Bool} (p : P b H) : OPB prog w B A H [.bool b] (unB truthy) P := .mk fun s E vs hr r => by
  obtain _ | ⟨r, rr⟩ := r
  cases rr; (first | obtain ⟨_, rfl⟩ := r.sh | obtain rfl := r.sh)
  exact wpAny_truthy_bool (.here p hr)
end

section
variable {prog : Program} {w : World} {B : GB} {A : Around} {env : Env} {l : Loc} {H : HP} {P : List AV → HP → Prop} {pos : Pos}
theorem el_nil (p : P [] H) : EL prog w B A env l pos [] H P := .mk fun s _ hr _ => wpAny_items_nil ⟨[], H, s.heap, s.toks, rfl, p, .nil, hr, .refl ..⟩
theorem el_cons {e : Expr} {rest : List Expr} (h : EX prog w B A env l e H (KCons prog w B A env l pos rest P))
    (he : starEach (e :: rest) env = (false, eval e env) :: starEach rest env := by rfl) : EL prog w B A env l pos (e :: rest) H P := .mk fun s E hr F =>
  wpAny_items_cons (use (h.run s E hr F) fun _ v _ _ _ p r hr₁ t₁ => useL (p.run _ E hr₁ (F.tr t₁)) fun as vs H₂ h₂ tk₂ p₂ r₂ hr₂ t₂ => ⟨_ :: as, H₂, h₂, tk₂, rfl, p₂, .cons (r.tr' t₂) r₂, hr₂, t₁.trans' t₂⟩) he
end
end Mine
namespace Mine
open PySem PySem.Calls

inductive AF where
  | next | brk | cont
  | ret (a : AV)
noncomputable def FlVR (H : HP) (h : Heap) : AF → Flow → Prop
  | .next, .next => True
  | .brk, .brk => True
  | .cont, .cont => True
  | .ret a, .ret v => VR H h a v
  | _, _ => False

noncomputable def SPost (B : GB) (env : Env) (s : Shared) (H : HP) (P : AF → Loc → HP → Prop) : Flow → Shared → Prop := fun f s' =>
  ∃ af l' H' h' tk, s' = { s with heap := h', toks := tk } ∧ P af l' H' ∧ FlVR H' h' af f ∧ HR B H' h' ∧ FW B H' env l' h' ∧ Tr (own env) H s.heap H' h'
noncomputable def UPost (B : GB) (env : Env) (s : Shared) (H : HP) (P : Loc → HP → Prop) : Unit → Shared → Prop := fun _ s' =>
  ∃ l' H' h' tk, s' = { s with heap := h', toks := tk } ∧ P l' H' ∧ HR B H' h' ∧ FW B H' env l' h' ∧ Tr (own env) H s.heap H' h'

section
variable (prog : Program) (w : World) (B : GB) (A : Around) (env : Env)
structure SX (st : Stmt) (l : Loc) (H : HP) (P : AF → Loc → HP → Prop) : Prop where
  run : ∀ (s : Shared) (E : Value → Shared → Prop), HR B H s.heap → FW B H env l s.heap → wpAny (model prog w) A (exec st env) (SPost B env s H P) E s
structure ST (ss : List Stmt) (l : Loc) (H : HP) (P : AF → Loc → HP → Prop) : Prop where
  run : ∀ (s : Shared) (E : Value → Shared → Prop), HR B H s.heap → FW B H env l s.heap → wpAny (model prog w) A (execs ss env) (SPost B env s H P) E s
structure AS (t : Value → Sem Unit) (a : AV) (l : Loc) (H : HP) (P : Loc → HP → Prop) : Prop where
  run : ∀ (s : Shared) (E : Value → Shared → Prop) (v : Value), HR B H s.heap → FW B H env l s.heap → VR H s.heap a v → wpAny (model prog w) A (t v) (UPost B env s H P) E s
end

theorem FW.ownThere {B : GB} {H : HP} {env : Env} {l : Loc} {h : Heap} (F : FW B H env l h) {b : Addr} (hb : own env b) : ∃ o, h.get? b = some o := by
  rcases hb with rfl | ⟨z, x, e⟩
  · obtain ⟨m, ⟨o, _, _, ho, _⟩, _⟩ := F.ns; exact ⟨o, ho⟩
  · obtain ⟨⟨vo, o, ho, _⟩, _⟩ := F.cells z x b e; exact ⟨o, ho⟩
theorem FW.ownPlain {B : GB} {H : HP} {env : Env} {l : Loc} {h : Heap} (F : FW B H env l h) : ∀ b o, own env b → h.get? b = some o → Inert o := by
  intro b o hb e
  rcases hb with rfl | ⟨z, x, q⟩
  · obtain ⟨m, hn, _⟩ := F.ns; exact ns_not_list hn e
  · obtain ⟨⟨vo, hc⟩, _⟩ := F.cells z x b q; exact cell_not_list hc e
theorem FW.ownKey {B : GB} {H : HP} {env : Env} {l : Loc} {h : Heap} (F : FW B H env l h) (hr : HR B H h) {b : Addr} (hb : own env b) : b ∉ keys H := by
  intro hk
  obtain ⟨p, hp, rfl⟩ := List.mem_map.mp hk
  obtain ⟨vs, n, e, _⟩ := hr.list p hp
  exact (F.ownPlain _ _ hb e).1 vs n rfl
theorem Tr.transW {B : GB} {env : Env} {l : Loc} {H₀ H₁ H₂ : HP} {h₀ h₁ h₂ : Heap} (x : Tr (own env) H₀ h₀ H₁ h₁) (F : FW B H₁ env l h₁) (y : Tr (own env) H₁ h₁ H₂ h₂) : Tr (own env) H₀ h₀ H₂ h₂ :=
  x.trans y fun b hb e => by obtain ⟨o, q⟩ := F.ownThere hb; rw [q] at e; cases e
theorem Tr.up {env : Env} {H H' : HP} {h h' : Heap} (x : Tr nowhere H h H' h') : Tr (own env) H h H' h' := x.wide fun _ q => q.elim

theorem SPost.trans {B : GB} {env : Env} {s : Shared} {H H₁ : HP} {l₁ : Loc} {P : AF → Loc → HP → Prop} {h₁ : Heap} {tk₁ : Nat} {f : Flow} {s' : Shared} (x : Tr (own env) H s.heap H₁ h₁) (F : FW B H₁ env l₁ h₁)
    (y : SPost B env { s with heap := h₁, toks := tk₁ } H₁ P f s') : SPost B env s H P f s' := by
  obtain ⟨af, l', H', h', tk, e, p, r, hr, F', t⟩ := y
  exact ⟨af, l', H', h', tk, by rw [e], p, r, hr, F', x.transW F t⟩
theorem UPost.trans {B : GB} {env : Env} {s : Shared} {H H₁ : HP} {l₁ : Loc} {P : Loc → HP → Prop} {h₁ : Heap} {tk₁ : Nat} {f : Unit} {s' : Shared} (x : Tr (own env) H s.heap H₁ h₁) (F : FW B H₁ env l₁ h₁)
    (y : UPost B env { s with heap := h₁, toks := tk₁ } H₁ P f s') : UPost B env s H P f s' := by
  obtain ⟨l', H', h', tk, e, p, hr, F', t⟩ := y
  exact ⟨l', H', h', tk, by rw [e], p, hr, F', x.transW F t⟩

section
variable {prog : Program} {w : World} {B : GB} {A : Around} {env : Env} {l : Loc} {H : HP} {P : AF → Loc → HP → Prop}
theorem useS {t : Sem Flow} {K : Flow → Shared → Prop} {s : Shared} {E : Value → Shared → Prop} {P₁ : AF → Loc → HP → Prop} (h : wpAny (model prog w) A t (SPost B env s H P₁) E s)
    (k : ∀ af f l₁ H₁ h₁ tk₁, P₁ af l₁ H₁ → FlVR H₁ h₁ af f → HR B H₁ h₁ → FW B H₁ env l₁ h₁ → Tr (own env) H s.heap H₁ h₁ → K f { s with heap := h₁, toks := tk₁ }) : wpAny (model prog w) A t K E s :=
  wpAny_mono h (fun f s' x => by
    obtain ⟨af, l₁, H₁, h₁, tk₁, rfl, p, r, hr, F, t₁⟩ := x
    exact k af f l₁ H₁ h₁ tk₁ p r hr F t₁) fun _ _ e => e
theorem useU {t : Sem Unit} {K : Unit → Shared → Prop} {s : Shared} {E : Value → Shared → Prop} {P₁ : Loc → HP → Prop} (h : wpAny (model prog w) A t (UPost B env s H P₁) E s)
    (k : ∀ l₁ H₁ h₁ tk₁, P₁ l₁ H₁ → HR B H₁ h₁ → FW B H₁ env l₁ h₁ → Tr (own env) H s.heap H₁ h₁ → K () { s with heap := h₁, toks := tk₁ }) : wpAny (model prog w) A t K E s :=
  wpAny_mono h (fun f s' x => by
    obtain ⟨l₁, H₁, h₁, tk₁, rfl, p, hr, F, t₁⟩ := x
    exact k l₁ H₁ h₁ tk₁ p hr F t₁) fun _ _ e => e
theorem backS {t : Sem Flow} {s : Shared} {E : Value → Shared → Prop} {l₁ : Loc} {H₁ : HP} {h₁ : Heap} {tk₁ : Nat} (x : Tr (own env) H s.heap H₁ h₁) (F : FW B H₁ env l₁ h₁)
    (h : wpAny (model prog w) A t (SPost B env { s with heap := h₁, toks := tk₁ } H₁ P) E { s with heap := h₁, toks := tk₁ }) : wpAny (model prog w) A t (SPost B env s H P) E { s with heap := h₁, toks := tk₁ } :=
  wpAny_mono h (fun _ _ y => y.trans x F) fun _ _ e => e
theorem backU {P : Loc → HP → Prop} {t : Sem Unit} {s : Shared} {E : Value → Shared → Prop} {l₁ : Loc} {H₁ : HP} {h₁ : Heap} {tk₁ : Nat} (x : Tr (own env) H s.heap H₁ h₁) (F : FW B H₁ env l₁ h₁)
    (h : wpAny (model prog w) A t (UPost B env { s with heap := h₁, toks := tk₁ } H₁ P) E { s with heap := h₁, toks := tk₁ }) : wpAny (model prog w) A t (UPost B env s H P) E { s with heap := h₁, toks := tk₁ } :=
  wpAny_mono h (fun _ _ y => y.trans x F) fun _ _ e => e

theorem st_nil (p : P .next l H) : ST prog w B A env [] l H P := .mk fun s E hr F => wpAny_execs_nil ⟨.next, l, H, s.heap, s.toks, rfl, p, trivial, hr, F, .refl ..⟩
noncomputable abbrev KRet (P : AF → Loc → HP → Prop) (l : Loc) (a : AV) (H₁ : HP) : Prop := P (.ret a) l H₁
noncomputable abbrev KNext (P : AF → Loc → HP → Prop) (l : Loc) (_ : AV) (H₁ : HP) : Prop := P .next l H₁
noncomputable abbrev KLoc (P : AF → Loc → HP → Prop) (l₂ : Loc) (H₂ : HP) : Prop := P .next l₂ H₂
noncomputable abbrev KIf (prog : Program) (w : World) (B : GB) (A : Around) (env : Env) (l : Loc) (body orelse : List Stmt) (P : AF → Loc → HP → Prop) (b : Bool) (H₁ : HP) : Prop := if b = true then ST prog w B A env body l H₁ P else ST prog w B A env orelse l H₁ P
noncomputable abbrev KSet (prog : Program) (w : World) (B : GB) (A : Around) (env : Env) (t : Value → Sem Unit) (l : Loc) (P : Loc → HP → Prop) (a : AV) (H₁ : HP) : Prop := AS prog w B A env t a l H₁ P
noncomputable abbrev KAs (prog : Program) (w : World) (B : GB) (A : Around) (env : Env) (t : Value → Sem Unit) (a : AV) (P : Loc → HP → Prop) (l₂ : Loc) (H₂ : HP) : Prop := AS prog w B A env t a l₂ H₂ P
noncomputable abbrev KSet2 (prog : Program) (w : World) (B : GB) (A : Around) (env : Env) (t t' : Value → Sem Unit) (l : Loc) (P : Loc → HP → Prop) (a : AV) (H₁ : HP) : Prop := AS prog w B A env t a l H₁ (KAs prog w B A env t' a P)
noncomputable abbrev KSwap (prog : Program) (w : World) (B : GB) (A : Around) (env : Env) (x y : Str) (l : Loc) (P : Loc → HP → Prop) (r : AV) (H₁ : HP) : Prop := ∃ a b, r = .tup [a, b] ∧ AS prog w B A env (bindName env y) b l H₁ (KAs prog w B A env (bindName env x) a P)
noncomputable abbrev KTup (P : AV → HP → Prop) (as : List AV) (H₁ : HP) : Prop := as.length ≤ 1000 ∧ P (.tup as) H₁
noncomputable abbrev KLst (P : AV → HP → Prop) (as : List AV) (H₁ : HP) : Prop := as.length ≤ 1000 ∧ P (.lst as) H₁
noncomputable abbrev KLstT (P : AV → HP → Prop) (as : List AV) (H₁ : HP) : Prop := as.length ≤ 1000 ∧ ∀ a, P (.list a) ((a, as) :: H₁)
noncomputable abbrev Then (prog : Program) (w : World) (B : GB) (A : Around) (env : Env) (ss : List Stmt) (P : AF → Loc → HP → Prop) (f : AF) (l₁ : Loc) (H₁ : HP) : Prop := match f with
  | .next => ST prog w B A env ss l₁ H₁ P
  | f => P f l₁ H₁
theorem st_cons {st : Stmt} {ss : List Stmt} (h : SX prog w B A env st l H (Then prog w B A env ss P)) : ST prog w B A env (st :: ss) l H P := .mk fun s E hr F =>
  wpAny_execs_cons (useS (h.run s E hr F) fun af f l₁ H₁ h₁ tk₁ p r hr₁ F₁ t₁ => by
    cases af with
    | next => cases f <;> first | exact r.elim | exact backS t₁ F₁ (p.run _ E hr₁ F₁)
    | brk => cases f <;> first | exact r.elim | exact ⟨.brk, l₁, H₁, h₁, tk₁, rfl, p, r, hr₁, F₁, t₁⟩
    | cont => cases f <;> first | exact r.elim | exact ⟨.cont, l₁, H₁, h₁, tk₁, rfl, p, r, hr₁, F₁, t₁⟩
    | ret a => cases f <;> first | exact r.elim | exact ⟨.ret a, l₁, H₁, h₁, tk₁, rfl, p, r, hr₁, F₁, t₁⟩)

theorem sx_return {e : Expr} {pos : Pos} (h : EX prog w B A env l e H (KRet P l)) : SX prog w B A env (.Return (some e) pos) l H P := .mk fun s E hr F =>
  wpAny_Return_some (use (h.run s E hr F.toFR) fun a v H₁ h₁ tk₁ p r hr₁ t₁ => ⟨.ret a, l, H₁, h₁, tk₁, rfl, p, r, hr₁, F.tr t₁, t₁.up⟩)
theorem sx_if {test : Expr} {body orelse : List Stmt} {pos : Pos} (h : TX prog w B A env l test H (KIf prog w B A env l body orelse P)) :
    SX prog w B A env (.If test body orelse pos) l H P := .mk fun s E hr F =>
  wpAny_If (useB (h.run s E hr F.toFR) fun b H₁ h₁ tk₁ p hr₁ t₁ => by
    cases b with
    | true => exact backS t₁.up (F.tr t₁) ((ift p).run _ E hr₁ (F.tr t₁))
    | false => exact backS t₁.up (F.tr t₁) ((ifn p).run _ E hr₁ (F.tr t₁)))
theorem sx_break {pos : Pos} (p : P .brk l H) : SX prog w B A env (.Break pos) l H P := .mk fun s E hr F => wpAny_Break ⟨.brk, l, H, s.heap, s.toks, rfl, p, trivial, hr, F, .refl ..⟩
theorem sx_continue {pos : Pos} (p : P .cont l H) : SX prog w B A env (.Continue pos) l H P := .mk fun s E hr F => wpAny_Continue ⟨.cont, l, H, s.heap, s.toks, rfl, p, trivial, hr, F, .refl ..⟩
theorem sx_expr {e : Expr} {pos : Pos} (h : EX prog w B A env l e H (KNext P l)) (hi : interactive env = false := by rfl) (hs : swapsWith e none pos.line env = pure false := by rfl) : SX prog w B A env (.Expr e pos) l H P := .mk fun s E hr F =>
  wpAny_Expr_any (use (h.run s E hr F.toFR) fun a v H₁ h₁ tk₁ p r hr₁ t₁ => ⟨.next, l, H₁, h₁, tk₁, rfl, p, trivial, hr₁, F.tr t₁, t₁.up⟩) hi hs

theorem as_local {x : Str} {a : AV} {P : Loc → HP → Prop} (hx : env.kindOf x = some .local) (p : P (put l x a) H) : AS prog w B A env (storeName env x) a l H P := .mk fun s E v hr F r => by
  obtain ⟨m, hn, hv⟩ := F.ns
  refine wpAny_storeName_local hx hn (fun h' hn' hs => ?_) (by rw [F.kind]; rfl)
  have t : Tr (own env) H s.heap H h' := ⟨fun b o hb e => .inl (.inl ((hs.2 b fun q => hb (.inl q)).trans e)), fun _ hb => .inl hb⟩
  have rr : ∀ {a v}, VR H s.heap a v → VR H h' a v := fun r => r.tr t F.ownPlain
  have cc : ∀ {c vo}, s.heap.IsCell c vo → h'.IsCell c vo := fun q => q.sameBut hs fun z => by
    obtain ⟨o, ho, hd⟩ := q; obtain ⟨o', es, ep, ho', hd', _⟩ := id hn; rw [z, ho'] at ho; cases ho; rw [hd'] at hd; cases hd
  refine ⟨put l x a, H, h', _, rfl, p, ⟨fun b o e => ?_, fun q hq => ?_, hr.new, hr.nodup, fun L hL => ?_⟩, ⟨⟨F.kind, F.glob, F.blt, ⟨_, hn', fun y b e k => ?_⟩, fun y b e k => ?_⟩, F.newL, fun fn y c e => ?_, F.apart, F.all⟩, t⟩
  · exact (hs.2 b fun q => by subst q; rw [F.newL] at e; cases e).trans (hr.keep b o e)
  · obtain ⟨vs, n, e, r'⟩ := hr.list q hq
    exact ⟨vs, n, (hs.2 _ fun z => F.ownKey hr (.inl z) (List.mem_map_of_mem hq)).trans e, r'.tr t F.ownPlain⟩
  · obtain ⟨m₁, hm₁⟩ := hr.alive L hL
    by_cases q : L = env.locals
    · exact ⟨_, q ▸ hn'⟩
    · exact ⟨m₁, hm₁.sameBut hs q⟩
  · rw [lk_put] at e
    by_cases q : y = x
    · subst q; simp only [if_true] at e; cases e; exact ⟨v, by simp, rr r⟩
    · simp only [if_neg q] at e ⊢
      obtain ⟨u, e', r'⟩ := hv y b e k
      exact ⟨u, e', rr r'⟩
  · rw [lk_put] at e
    have q : y ≠ x := fun z => by subst z; rw [hx] at k; cases k
    rw [if_neg q] at e
    obtain ⟨c, u, e', hc, r'⟩ := F.cell y b e k
    exact ⟨c, u, e', cc hc, rr r'⟩
  · obtain ⟨⟨vo, hc⟩, z⟩ := F.cells fn y c e
    exact ⟨⟨vo, cc hc⟩, z⟩
theorem as_cell {x : Str} {a : AV} {P : Loc → HP → Prop} (hx : env.kindOf x = some .cell) (p : P (put l x a) H) (fn : env.func.isSome = true := by rfl) : AS prog w B A env (storeName env x) a l H P := .mk fun s E v hr F r => by
  obtain ⟨m, hn, hv⟩ := F.ns
  obtain ⟨c, hc⟩ := F.all fn x hx
  obtain ⟨⟨vo, hco⟩, hcB, hcL⟩ := F.cells fn x c hc
  refine wpAny_storeName_cell F.kind hx hc hco fun h' hc' hs => ?_
  have t : Tr (own env) H s.heap H h' := ⟨fun b o hb e => .inl (.inl ((hs.2 b fun q => hb (.inr ⟨fn, x, q ▸ hc⟩)).trans e)), fun _ hb => .inl hb⟩
  have rr : ∀ {a v}, VR H s.heap a v → VR H h' a v := fun r => r.tr t F.ownPlain
  refine ⟨put l x a, H, h', _, rfl, p, ⟨fun b o e => ?_, fun q hq => ?_, hr.new, hr.nodup, fun L hL => ?_⟩, ⟨⟨F.kind, F.glob, F.blt, ⟨m, hn.sameBut hs (Ne.symm hcL), fun y b e k => ?_⟩, fun y b e k => ?_⟩, F.newL, fun _ y c' e => ?_, F.apart, F.all⟩, t⟩
  · exact (hs.2 b fun q => by subst q; rw [hcB] at e; cases e).trans (hr.keep b o e)
  · obtain ⟨vs, n, e, r'⟩ := hr.list q hq
    exact ⟨vs, n, (hs.2 _ fun z => F.ownKey hr (.inr ⟨fn, x, z ▸ hc⟩) (List.mem_map_of_mem hq)).trans e, r'.tr t F.ownPlain⟩
  · obtain ⟨m₁, hm₁⟩ := hr.alive L hL
    exact ⟨m₁, hm₁.sameBut hs fun q => by
      subst q
      obtain ⟨o, es, ep, ho, hd, _⟩ := hm₁
      obtain ⟨o', ho', hd'⟩ := hco
      rw [ho] at ho'; cases ho'; rw [hd] at hd'; cases hd'⟩
  · rw [lk_put] at e
    have q : y ≠ x := fun z => by subst z; rw [hx] at k; cases k
    rw [if_neg q] at e
    obtain ⟨u, e', r'⟩ := hv y b e k
    exact ⟨u, e', rr r'⟩
  · rw [lk_put] at e
    by_cases q : y = x
    · subst q; simp only [if_true] at e; cases e; exact ⟨c, v, hc, hc', rr r⟩
    · rw [if_neg q] at e
      obtain ⟨c', u, e', hcc, r'⟩ := F.cell y b e k
      exact ⟨c', u, e', hcc.sameBut hs (fun z => q (F.apart fn y x c' e' (z ▸ hc))), rr r'⟩
  · obtain ⟨⟨vo', hcc⟩, z⟩ := F.cells fn y c' e
    refine ⟨?_, z⟩
    by_cases q : c' = c
    · subst q; exact ⟨_, hc'⟩
    · exact ⟨vo', hcc.sameBut hs q⟩
theorem as_name {x : Str} {pos : Pos} {a : AV} {P : Loc → HP → Prop} (h : AS prog w B A env (storeName env x) a l H P) : AS prog w B A env (assign (.Name x pos) env) a l H P :=
  .mk fun s E v hr F r => wpAny_assign_Name (h.run s E v hr F r)

theorem sx_assign {x : Str} {px pos : Pos} {e : Expr} (h : EX prog w B A env l e H (KSet prog w B A env (storeName env x) l (KLoc P)))
    (hs : swapsWith e (some (.Name x px)) pos.line env = pure false := by rfl) : SX prog w B A env (.Assign [.Name x px] e pos) l H P := .mk fun s E hr F =>
  wpAny_Assign_Name (use (h.run s E hr F.toFR) fun a v H₁ h₁ tk₁ p r hr₁ t₁ => useU (p.run _ E v hr₁ (F.tr t₁) r) fun l₂ H₂ h₂ tk₂ p₂ hr₂ F₂ t₂ =>
    ⟨.next, l₂, H₂, h₂, tk₂, rfl, p₂, trivial, hr₂, F₂, t₁.up.transW (F.tr t₁) t₂⟩) hs
theorem sx_aug {x : Str} {px pos : Pos} {op : Operator} {e : Expr} {a : AV} (hx : env.kindOf x = some .local) (hl : lk l x = some a)
    (h : EX prog w B A env l e H (KOp2 prog w B A (bin (inplaceOp op)) (KSet prog w B A env (storeName env x) l (KLoc P)) a)) :
    SX prog w B A env (.AugAssign (.Name x px) op e pos) l H P := .mk fun s E hr F => by
  obtain ⟨m, hn, hv⟩ := F.ns
  obtain ⟨v, e', r⟩ := hv x a hl hx
  exact wpAny_AugAssign_Name (wpAny_loadName_local F.kind hx hn e' (use (h.run s E hr F.toFR) fun b u H₁ h₁ tk₁ p r₁ hr₁ t₁ => use (p.run _ E [v, u] hr₁ (.cons (r.tr' t₁) (.cons r₁ .nil))) fun c z H₂ h₂ tk₂ p₂ r₂ hr₂ t₂ =>
    useU (p₂.run _ E z hr₂ (F.tr (t₁.trans' t₂)) r₂) fun l₃ H₃ h₃ tk₃ p₃ hr₃ F₃ t₃ => ⟨.next, l₃, H₃, h₃, tk₃, rfl, p₃, trivial, hr₃, F₃, (t₁.trans' t₂).up.transW (F.tr (t₁.trans' t₂)) t₃⟩))
theorem sx_assign2 {t₁ t₂ : Expr} {pos : Pos} {e : Expr} (h : EX prog w B A env l e H (KSet2 prog w B A env (assign t₁ env) (assign t₂ env) l (KLoc P)))
    (he : (assignEach [t₁, t₂] env).map (·.2) = [assign t₁ env, assign t₂ env] := by rfl)
    (hw : swappedStores [t₁, t₂] e env = pure none := by rfl) : SX prog w B A env (.Assign [t₁, t₂] e pos) l H P := .mk fun s E hr F =>
  wpAny_Assign_two (use (h.run s E hr F.toFR) fun a v H₁ h₁ tk₁ p r hr₁ t₁ => useU (p.run _ E v hr₁ (F.tr t₁) r) fun l₂ H₂ h₂ tk₂ p₂ hr₂ F₂ t₂ =>
    useU (p₂.run _ E v hr₂ F₂ (r.tr t₂ (F.tr t₁).ownPlain)) fun l₃ H₃ h₃ tk₃ p₃ hr₃ F₃ t₃ => ⟨.next, l₃, H₃, h₃, tk₃, rfl, p₃, trivial, hr₃, F₃, (t₁.up.transW (F.tr t₁) t₂).transW F₂ t₃⟩) he hw

theorem as_order2 {x y : Str} {a b : AV} {P : Loc → HP → Prop} (h : AS prog w B A env (bindName env x) a l H (KAs prog w B A env (bindName env y) b P))
    {s : Shared} {E : Value → Shared → Prop} {v u : Value} (hr : HR B H s.heap) (F : FW B H env l s.heap) (r : VR H s.heap a v) (r' : VR H s.heap b u) :
    wpAny (model prog w) A (assignInOrder [bindName env x, bindName env y] [v, u]) (UPost B env s H P) E s := by
  show wpAny _ _ (do holding [u] (bindName env x v); assignInOrder [bindName env y] [u]) _ _ _
  refine wpAny_bind (wpAny_holding (useU (h.run s E v hr F r) fun l₁ H₁ h₁ tk₁ p hr₁ F₁ t₁ => backU t₁ F₁ ?_))
  show wpAny _ _ (do holding [] (bindName env y u); assignInOrder [] []) _ _ _
  refine wpAny_bind (wpAny_holding (useU (p.run _ E u hr₁ F₁ (r'.tr t₁ F.ownPlain)) fun l₂ H₂ h₂ tk₂ p₂ hr₂ F₂ t₂ => ?_))
  exact wpAny_pure ⟨l₂, H₂, h₂, tk₂, rfl, p₂, hr₂, F₂, t₂⟩
theorem as_bind {x : Str} {a : AV} {P : Loc → HP → Prop} (h : AS prog w B A env (storeName env x) a l H P) : AS prog w B A env (bindName env x) a l H P :=
  .mk fun s E v hr F r => wpAny_bindName (h.run s E v hr F r)

theorem VR.tupInv {H : HP} {h : Heap} {as : List AV} {v : Value} (r : VR H h (.tup as) v) : ∃ a vs n, v = .ref a ∧ h.get? a = some (tob vs n) ∧ VRs H h as vs.toList := by
  cases r with
  | tup e r => exact ⟨_, _, _, rfl, e, r⟩
theorem VRs.one {H : HP} {h : Heap} {a : AV} {vs : List Value} (r : VRs H h [a] vs) : ∃ v, vs = [v] ∧ VR H h a v := by
  obtain ⟨v, vs, rfl, x, r⟩ := r.consInv
  obtain rfl := r.nilInv
  exact ⟨_, rfl, x⟩
theorem VRs.two {H : HP} {h : Heap} {a b : AV} {vs : List Value} (r : VRs H h [a, b] vs) : ∃ v u, vs = [v, u] ∧ VR H h a v ∧ VR H h b u := by
  obtain ⟨v, vs, rfl, x, r⟩ := r.consInv
  obtain ⟨u, rfl, y⟩ := r.one
  exact ⟨_, _, rfl, x, y⟩
theorem VRs.three {H : HP} {h : Heap} {a b c : AV} {vs : List Value} (r : VRs H h [a, b, c] vs) : ∃ v u t, vs = [v, u, t] ∧ VR H h a v ∧ VR H h b u ∧ VR H h c t := by
  obtain ⟨v, vs, rfl, x, r⟩ := r.consInv
  obtain ⟨u, t, rfl, y, q⟩ := r.two
  exact ⟨_, _, _, rfl, x, y, q⟩
theorem tob.isTuple {h : Heap} {a : Addr} {vs : Array Value} {n : Nat} (e : h.get? a = some (tob vs n)) : h.IsTuple a vs := ⟨_, e, rfl, n, rfl⟩

theorem Tr.ext {W : Addr → Prop} {H : HP} {h h' : Heap} (he : Heap.ExtBut h.objs.size h h') : Tr W H h H h' := .keeps fun b o e => he b o (Nat.ne_of_lt (Heap.lt_size e)) e
theorem ext_keeps {h h' : Heap} (he : Heap.ExtBut h.objs.size h h') : ∀ b o, h.get? b = some o → h'.get? b = some o := fun b o e => he b o (Nat.ne_of_lt (Heap.lt_size e)) e

theorem sx_tuple2 {x y : Str} {px py tpos pos : Pos} {k : Nat} {e : Expr} (hh : A.handled = none)
    (h : EX prog w B A env l e H (KSwap prog w B A env x y l (KLoc P)))
    (hs : swapsWithSole [.Tuple [.Name x px, .Name y py] k tpos] e pos.line env = pure false := by rfl)
    (hw : swappedStores [.Tuple [.Name x px, .Name y py] k tpos] e env = pure (some [x, y]) := by rfl) : SX prog w B A env (.Assign [.Tuple [.Name x px, .Name y py] k tpos] e pos) l H P := .mk fun s E hr F => by
  refine PyProof.Rows.Assign_Tuple_swapped (use (h.run s E hr F.toFR) fun r v H₁ h₁ tk₁ p r hr₁ t₁ => ?_) hs hw
  obtain ⟨a, b, rfl, p⟩ := p
  obtain ⟨t, vs, n, rfl, et, rs⟩ := r.tupInv
  obtain ⟨v, u, ev, r1, r2⟩ := rs.two
  have hsz : ([x, y] : List Str).length = vs.size := by rw [← Array.length_toList, ev]; rfl
  rw [hsz]
  refine wpAny_unpackItems_tuple hh (tob.isTuple et) fun h' he => ?_
  rw [ev]
  have tk : Tr nowhere H₁ h₁ H₁ h' := .ext he
  have hr' : HR B H₁ h' := hr₁.keeps (ext_keeps he)
  have F' := F.tr (t₁.trans' tk)
  refine useU (as_order2 p hr' F' (r2.tr' tk) (r1.tr' tk)) fun l₃ H₃ h₃ tk₃ p₃ hr₃ F₃ t₃ => ?_
  exact ⟨.next, l₃, H₃, h₃, tk₃, rfl, p₃, trivial, hr₃, F₃, (t₁.trans' tk).up.transW F' t₃⟩
theorem as_tuple2 {x y : Str} {px py tpos : Pos} {k : Nat} {a b : AV} {P : Loc → HP → Prop} (hh : A.handled = none)
    (h : AS prog w B A env (bindName env x) a l H (KAs prog w B A env (bindName env y) b P)) : AS prog w B A env (assign (.Tuple [.Name x px, .Name y py] k tpos) env) (.tup [a, b]) l H P := .mk fun s E v hr F r => by
  obtain ⟨t, vs, n, rfl, et, rs⟩ := r.tupInv
  obtain ⟨v, u, ev, r1, r2⟩ := rs.two
  have hsz : 2 = vs.size := by rw [← Array.length_toList, ev]; rfl
  refine wpAny_assign_Tuple hh (tob.isTuple et) hsz rfl fun h' he => ?_
  rw [ev]
  have tk : Tr nowhere H s.heap H h' := .ext he
  have F' := F.tr tk
  have e : (assignEach [.Name x px, .Name y py] env).map (·.2) = [assign (.Name x px) env, assign (.Name y py) env] := rfl
  rw [e]
  show wpAny _ _ (do holding [u] (assign (.Name x px) env v); assignInOrder [assign (.Name y py) env] [u]) _ _ _
  have as {z : Str} {pz : Pos} {c : AV} {l : Loc} {H : HP} {P : Loc → HP → Prop} (q : AS prog w B A env (bindName env z) c l H P) : AS prog w B A env (assign (.Name z pz) env) c l H P := .mk fun s E v hr F r => by
    show wpAny _ _ (do standAt pz; bindName env z v) _ _ _
    exact wpAny_bind (wpAny_standAt (q.run s E v hr F r))
  refine wpAny_bind (wpAny_holding (useU ((as h).run _ E v (hr.keeps (ext_keeps he)) F' (r1.tr' tk)) fun l₁ H₁ h₁ tk₁ p hr₁ F₁ t₁ => backU (tk.up.transW F' t₁) F₁ ?_))
  show wpAny _ _ (do holding [] (assign (.Name y py) env u); assignInOrder [] []) _ _ _
  refine wpAny_bind (wpAny_holding (useU ((as p).run _ E u hr₁ F₁ ((r2.tr' tk).tr t₁ F'.ownPlain)) fun l₂ H₂ h₂ tk₂ p₂ hr₂ F₂ t₂ => ?_))
  exact wpAny_pure ⟨l₂, H₂, h₂, tk₂, rfl, p₂, hr₂, F₂, t₂⟩
end

section
variable {prog : Program} {w : World} {B : GB} {A : Around} {env : Env} {l : Loc} {H : HP} {P : AV → HP → Prop}
theorem HR.pushNew {h : Heap} (hr : HR B H h) {vs : Array Value} {as : List AV} (r : VRs H h as vs.toList) : HR B ((h.objs.size, as) :: H) (h.push (lob vs 0)) := by
  have k : ∀ b o, h.get? b = some o → (h.push (lob vs 0)).get? b = some o := fun b o e => Heap.get?_push_of_some _ e
  have fresh : ∀ {b}, b ∈ keys H → b ≠ h.objs.size := fun hb e => by
    obtain ⟨p, hp, rfl⟩ := List.mem_map.mp hb
    obtain ⟨vs', n, q, _⟩ := hr.list p hp
    exact absurd (Heap.lt_size q) (by rw [e]; exact Nat.lt_irrefl _)
  have none : h.get? h.objs.size = none := by
    cases q : h.get? h.objs.size with
    | none => rfl
    | some o => exact absurd (Heap.lt_size q) (Nat.lt_irrefl _)
  have t : Tr nowhere H h ((h.objs.size, as) :: H) (h.push (lob vs 0)) := ⟨fun b o _ e => .inl (.inl (k b o e)), fun b hb => by
    rcases List.mem_cons.mp hb with rfl | hb
    · exact .inr none
    · exact .inl hb⟩
  refine ⟨fun b o e => k b o (hr.keep b o e), fun p hp => ?_, fun b hb => ?_, ?_, fun L hL => let ⟨m, hm⟩ := hr.alive L hL; ⟨m, hm.keeps k⟩⟩
  · rcases List.mem_cons.mp hp with rfl | hp
    · exact ⟨vs, 0, Heap.get?_push_size _ rfl, r.tr' t⟩
    · obtain ⟨vs', n, q, r'⟩ := hr.list p hp
      exact ⟨vs', n, k _ _ q, r'.tr' t⟩
  · rcases List.mem_cons.mp hb with rfl | hb
    · cases q : B.get? h.objs.size with
      | none => rfl
      | some o => exact absurd (Heap.lt_size (hr.keep _ _ q)) (Nat.lt_irrefl _)
    · exact hr.new b hb
  · exact List.nodup_cons.mpr ⟨fun hm => fresh hm rfl, hr.nodup⟩
theorem Tr.pushNew {W : Addr → Prop} {h : Heap} {vs : Array Value} {as : List AV} : Tr W H h ((h.objs.size, as) :: H) (h.push (lob vs 0)) :=
  ⟨fun b o _ e => .inl (.inl (Heap.get?_push_of_some _ e)), fun b hb => by
    rcases List.mem_cons.mp hb with rfl | hb
    · right
      cases q : h.get? h.objs.size with
      | none => rfl
      | some o => exact absurd (Heap.lt_size q) (Nat.lt_irrefl _)
    · exact .inl hb⟩
theorem VR.pushTup {h : Heap} {vs : Array Value} {as : List AV} (r : VRs H h as vs.toList) : VR H (h.push (tob vs 0)) (.tup as) (.ref h.objs.size) :=
  .tup (Heap.get?_push_size _ rfl) (r.tr' (.keeps fun b o e => Heap.get?_push_of_some _ e))
theorem VR.pushLst {h : Heap} (hr : HR B H h) {vs : Array Value} {as : List AV} (r : VRs H h as vs.toList) : VR H (h.push (lob vs 0)) (.lst as) (.ref h.objs.size) :=
  .lst (fun hb => by
    obtain ⟨p, hp, e⟩ := List.mem_map.mp hb
    obtain ⟨vs', n, q, _⟩ := hr.list p hp
    exact absurd (Heap.lt_size q) (by rw [e]; exact Nat.lt_irrefl _)) (Heap.get?_push_size _ rfl) (r.tr' (.keeps fun b o e => Heap.get?_push_of_some _ e))
theorem ex_tuple {es : List Expr} {k : Nat} {pos : Pos} (h : EL prog w B A env l pos es H (KTup P)) : EX prog w B A env l (.Tuple es k pos) H P := .mk fun s E hr F =>
  wpAny_Tuple (useL (h.run s E hr F) fun as vs H₁ h₁ tk₁ p r hr₁ t₁ => ⟨by rw [← r.length, sizeLine_eq]; omega, Post.trans t₁ (Post.grown (fun b o e => Heap.get?_push_of_some _ e) p.2 (VR.pushTup (by simpa using r)) hr₁)⟩)
theorem ex_list {es : List Expr} {pos : Pos} (h : EL prog w B A env l pos es H (KLst P)) : EX prog w B A env l (.List es pos) H P := .mk fun s E hr F =>
  wpAny_List (useL (h.run s E hr F) fun as vs H₁ h₁ tk₁ p r hr₁ t₁ => ⟨by rw [← r.length, sizeLine_eq]; omega, Post.trans t₁ (Post.grown (fun b o e => Heap.get?_push_of_some _ e) p.2 (VR.pushLst hr₁ (by simpa using r)) hr₁)⟩)
theorem ex_listT {es : List Expr} {pos : Pos} (h : EL prog w B A env l pos es H (KLstT P)) : EX prog w B A env l (.List es pos) H P := .mk fun s E hr F =>
  wpAny_List (useL (h.run s E hr F) fun as vs H₁ h₁ tk₁ p r hr₁ t₁ => ⟨by rw [← r.length, sizeLine_eq]; omega, Post.trans t₁ ⟨.list _, _, _, _, rfl, p.2 _, .list _, hr₁.pushNew (by simpa using r), .pushNew⟩⟩)
end
end Mine
namespace Mine
open PySem PySem.Calls

structure Rm (A : Around) (k : Nat) : Prop where
  hh : A.handled = none
  depth : A.depth + k < recursionLimit
  units : A.units + 20 * k + 100 < cLine
theorem Rm.deeper {A : Around} {k : Nat} {env : Env} (r : Rm A (k + 1)) : Rm (A.deeper env) k :=
  ⟨r.hh, by have := r.depth; simp only [Around.deeper]; omega, by have := r.units; simp only [Around.deeper]; omega⟩
theorem Rm.less {A : Around} {k j : Nat} (r : Rm A k) (h : j ≤ k) : Rm A j := ⟨r.hh, by have := r.depth; omega, by have := r.units; omega⟩
theorem Rm.room {A : Around} {k : Nat} (r : Rm A k) : A.depth < recursionLimit := by have := r.depth; omega
theorem cells_has : ∀ (names : List (Str × NameKind)) (n : Nat) (acc : List (Str × Addr)) (x : Str), ((x, NameKind.cell) ∈ names ∨ (acc.lookup x).isSome = true) → ((cellsFrom n names acc).lookup x).isSome = true
  | [], _, _, _, h => h.resolve_left (fun q => nomatch q)
  | (name, kind) :: r, n, acc, x, h => by
    unfold cellsFrom
    split
    · rename_i hk
      refine cells_has r (n + 1) _ x ?_
      rcases h with h | h
      · rcases List.mem_cons.mp h with h | h
        · cases h; exact .inr (by simp [List.lookup_cons])
        · exact .inl h
      · right
        rw [List.lookup_cons]
        cases x == name <;> simp [h]
    · rename_i hk
      refine cells_has r n acc x ?_
      rcases h with h | h
      · rcases List.mem_cons.mp h with h | h
        · cases h; exact absurd rfl hk
        · exact .inl h
      · exact .inr h

noncomputable def locOf : List (Str × AV) → Loc → Loc
  | [], l => l
  | p :: r, l => locOf r (put l p.1 p.2)

theorem bound {H : HP} {h : Heap} {kindOf : Str → Option NameKind} : ∀ (ns : List Str) (as : List AV) (vs : List Value) (m cm : Str → Option Value) (l : Loc), VRs H h as vs →
    (∀ x a, lk l x = some a → (kindOf x = some .local → ∃ v, m x = some v ∧ VR H h a v) ∧ (kindOf x ≠ some .local → ∃ v, cm x = some v ∧ VR H h a v)) →
    ∀ x a, lk (locOf (ns.zip as) l) x = some a → (kindOf x = some .local → ∃ v, bindL kindOf (ns.zip vs) m x = some v ∧ VR H h a v) ∧ (kindOf x ≠ some .local → ∃ v, bindC kindOf (ns.zip vs) cm x = some v ∧ VR H h a v)
  | [], _, _, m, cm, l, _, hl => by simpa [locOf, bindL, bindC] using hl
  | n :: ns, _, _, m, cm, l, .nil, hl => by simpa [locOf, bindL, bindC] using hl
  | n :: ns, _, _, m, cm, l, .cons (a := a) (l := as) (v := v) (vs := vs) r rs, hl => by
    simp only [List.zip_cons_cons, locOf, bindL, bindC]
    refine bound ns as vs _ _ _ rs fun x b e => ?_
    rw [lk_put] at e
    by_cases hn : kindOf n = some .local
    · simp only [hn, if_true]
      by_cases q : x = n
      · subst q
        simp only [if_true] at e
        cases e
        exact ⟨fun _ => ⟨v, by simp, r⟩, fun hk => absurd hn hk⟩
      · rw [if_neg q] at e
        obtain ⟨h1, h2⟩ := hl x b e
        exact ⟨fun hk => let ⟨u, e', r'⟩ := h1 hk; ⟨u, by simp [q, e'], r'⟩, h2⟩
    · simp only [if_neg hn]
      by_cases q : x = n
      · subst q
        simp only [if_true] at e
        cases e
        exact ⟨fun hk => absurd hk hn, fun _ => ⟨v, by simp, r⟩⟩
      · rw [if_neg q] at e
        obtain ⟨h1, h2⟩ := hl x b e
        exact ⟨h1, fun hk => let ⟨u, e', r'⟩ := h2 hk; ⟨u, by simp [q, e'], r'⟩⟩

theorem lookup_cell_mem : ∀ {names : List (Str × NameKind)} {x : Str} {k : NameKind}, names.lookup x = some k → (x, k) ∈ names := fun h => mem_of_lookup h

noncomputable abbrev cl (f : Value) : List Value → Sem Value := fun vs => call f vs
noncomputable def Ret (P : AV → HP → Prop) : AF → Loc → HP → Prop := fun f _ H => match f with
  | .ret a => P a H
  | _ => P .none H

section
variable {prog : Program} {w : World} {B : GB} {A : Around} {H : HP} {P : AV → HP → Prop}
structure CF (prog : Program) (w : World) (B : GB) (A : Around) (H : HP) (as : List AV) (f : Addr) (P : AV → HP → Prop) : Prop where
  run : ∀ (s : Shared) (E : Value → Shared → Prop) (vs : List Value), HR B H s.heap → VRs H s.heap as vs → codeAny (model prog w) A (.call (.ref f) ⟨vs, []⟩) (fun r s' => match r with | .ok (.ret v) => Post B s H P v s' | .ok _ => False | .error e => E e s') s
theorem CF.op {f : Addr} {as : List AV} (h : CF prog w B A H as f P) : OP prog w B A H as (cl (.ref f)) P := .mk fun s E vs hr r => wpAny_call (h.run s E vs hr r)
theorem code_fun {gl : Str → Option Value} (hB : Base B gl) {f : Addr} {o : Obj} {fd : FuncData} {body : List Stmt} {ns : List Str} {as : List AV} (hf : B.get? f = some o) (ho : o.data = .func fd)
    (hroom : A.depth < recursionLimit) (hcd : B.heap.CodeRec fd.code fd.qualname) (hbody : fd.body = .stmts body) (hg : fd.globals = mainGlobals) (hbl : fd.builtins = builtinsNs)
    (hbind : ∀ vs : List Value, vs.length = as.length → bindArgs fd ⟨vs, []⟩ = pure (ns.zip vs)) (hkind : ∀ x ∈ ns, fd.scope.names.lookup x = some .local ∨ fd.scope.names.lookup x = some .cell)
    (h : ∀ L : Addr, B.get? L = none → ST prog w (B.more L) (A.deeper (callEnvC fd L f)) (callEnvC fd L f) body (locOf (ns.zip as) []) H (Ret P))
    (hclo : fd.closure = [] := by rfl) (hco : fd.scope.isCoroutine = false := by rfl) (hgen : fd.scope.isGenerator = false := by rfl) (hk : fd.scope.kind = .function := by rfl) :
    CF prog w B A H as f P := .mk fun s E vs hr r => by
  refine (codeAny_call_cells hroom (hr.keep _ _ hf) ho (hB.nolimit.keeps hr.keep) (hcd.keeps hr.keep) hbody (hbind vs r.length.symm) hclo (fun x hx => ?_) (fun s₁ X => ?_) hco hgen hk)
  · obtain ⟨i, hi, rfl⟩ := List.getElem_of_mem hx
    have : (ns.zip vs)[i].1 ∈ ns := by
      rw [List.getElem_zip]; exact List.getElem_mem _
    rcases hkind _ this with q | q
    · exact .inl q
    · exact .inr ⟨q, cells_has _ _ _ _ (.inl (lookup_cell_mem q))⟩
  · obtain ⟨h₁, tk₁, rfl, kp⟩ := X.done
    have t₁ : Tr nowhere H s.heap H h₁ := .keeps kp
    have hr₁ : HR B H h₁ := hr.keeps kp
    have r₁ := r.tr' t₁
    have above : ∀ b, s.heap.objs.size ≤ b → B.get? b = none := fun b hb => by
      cases q : B.get? b with
      | none => rfl
      | some o => exact absurd (Heap.lt_size (hr.keep _ _ q)) (Nat.not_lt.mpr hb)
    have loc := bound (H := H) (h := h₁) (kindOf := (callEnvC fd s.heap.objs.size f).kindOf) ns as vs (fun _ => none) (fun _ => none) [] r₁ (fun x a e => by simp [lk] at e)
    have hrL : HR (B.more s.heap.objs.size) H h₁ := ⟨hr₁.keep, hr₁.list, hr₁.new, hr₁.nodup, fun L' hL' => by
      rcases List.mem_cons.mp hL' with rfl | hL'
      · exact ⟨_, X.toInCall.ns⟩
      · exact hr₁.alive L' hL'⟩
    have F : FW (B.more s.heap.objs.size) H (callEnvC fd s.heap.objs.size f) (locOf (ns.zip as) []) h₁ := by
      refine ⟨⟨hk, hg, hbl, ⟨_, X.toInCall.ns, fun x a e k => (loc x a e).1 k⟩, fun x a e k => ?_⟩, above _ (Nat.le_refl _), fun _ x c e => ⟨⟨_, X.cell x c e⟩, above c (Nat.le_of_lt (X.above x c (mem_of_lookup e))), Nat.ne_of_gt (X.above x c (mem_of_lookup e))⟩, fun _ x y c e e' => name_of_addr X.apart (mem_of_lookup e) (mem_of_lookup e'), fun _ x k => ?_⟩
      · obtain ⟨v, e', r'⟩ := (loc x a e).2 (by rw [k]; decide)
        obtain ⟨c, hc⟩ := Option.isSome_iff_exists.mp (cells_has fd.scope.names (s.heap.objs.size + 1) [] x (.inl (lookup_cell_mem k)))
        exact ⟨c, v, hc, e' ▸ X.cell x c hc, r'⟩
      · exact Option.isSome_iff_exists.mp (cells_has fd.scope.names (s.heap.objs.size + 1) [] x (.inl (lookup_cell_mem k)))
    have fresh : ∀ b o, s.heap.get? b = some o → ¬ own (callEnvC fd s.heap.objs.size f) b := fun b o e hb => by
      have lt := Heap.lt_size e
      rcases hb with rfl | ⟨_, x, q⟩
      · exact Nat.lt_irrefl _ lt
      · exact absurd (X.above x b (mem_of_lookup q)) (Nat.not_lt.mpr (Nat.le_of_lt lt))
    refine useS ((h s.heap.objs.size (above _ (Nat.le_refl _))).run _ _ hrL F) fun af fl l₂ H₂ h₂ tk₂ p r₂ hrL₂ F₂ t₂ => ?_
    have hr₂ : HR B H₂ h₂ := ⟨hrL₂.keep, hrL₂.list, hrL₂.new, hrL₂.nodup, fun L' hL' => hrL₂.alive L' (.tail _ hL')⟩
    have t : Tr nowhere H s.heap H₂ h₂ := by
      refine ⟨fun b o _ e => t₂.ev b o (fresh b o e) (kp b o e), fun b hb => ?_⟩
      rcases t₂.grow b hb with q | q
      · exact .inl q
      · right
        cases z : s.heap.get? b with
        | none => rfl
        | some o => rw [kp b o z] at q; cases q
    cases af with
    | ret a => cases fl <;> first | exact r₂.elim | exact ⟨a, H₂, h₂, tk₂, rfl, p, r₂, hr₂, t⟩
    | next => cases fl <;> first | exact r₂.elim | exact ⟨.none, H₂, h₂, tk₂, rfl, p, .none, hr₂, t⟩
    | brk => cases fl <;> first | exact r₂.elim | exact ⟨.none, H₂, h₂, tk₂, rfl, p, .none, hr₂, t⟩
    | cont => cases fl <;> first | exact r₂.elim | exact ⟨.none, H₂, h₂, tk₂, rfl, p, .none, hr₂, t⟩

variable {env : Env} {l : Loc}
theorem ex_callF {x : Str} {px pos : Pos} {e : Expr} {es : List Expr} {f : Addr} {o : Obj} {fd : FuncData} (hf : B.get? f = some o) (ho : o.data = .func fd)
    (h : EX prog w B A env l (.Name x px) H fun a H₁ => a = .val (.ref f) ∧ EL prog w B A env l pos (e :: es) H₁ fun as H₂ => OP prog w B A H₂ as (cl (.ref f)) P)
    (he : starEach (e :: es) env = (false, eval e env) :: starEach es env := by rfl) : EX prog w B A env l (.Call (.Name x px) (e :: es) [] pos) H P := .mk fun s E hr F => by
  refine wpAny_Call_ofName (use (h.run s E hr F) fun a v H₁ h₁ tk₁ p r hr₁ t₁ => ?_)
  obtain ⟨rfl, p⟩ := p
  (first | obtain ⟨_, rfl⟩ := r.sh | obtain rfl := r.sh)
  have p' := p.run { s with heap := h₁, toks := tk₁ } E hr₁ (F.tr t₁)
  rw [he] at p' ⊢
  refine callWith_function (o := o) (fd := fd) (evalArgs_plain (useL p' fun as vs H₂ h₂ tk₂ p₂ r₂ hr₂ t₂ => ⟨⟨hr₂.keep _ _ hf, ho⟩, ?_⟩))
  exact back (t₁.trans' t₂) (p₂.run { s with heap := h₂, toks := tk₂ } E vs hr₂ r₂)
theorem ex_callB {x : Str} {px pos : Pos} {e : Expr} {es : List Expr} {id : String}
    (h : EX prog w B A env l (.Name x px) H fun a H₁ => a = .val (.builtin id) ∧ EL prog w B A env l pos (e :: es) H₁ fun as H₂ => OP prog w B A H₂ as (cl (.builtin id)) P)
    (he : starEach (e :: es) env = (false, eval e env) :: starEach es env := by rfl) (hplain : (backTo pos (starEach es env)).any (·.1) = false := by rfl) : EX prog w B A env l (.Call (.Name x px) (e :: es) [] pos) H P := .mk fun s E hr F => by
  refine wpAny_Call_ofName (use (h.run s E hr F) fun a v H₁ h₁ tk₁ p r hr₁ t₁ => ?_)
  obtain ⟨rfl, p⟩ := p
  (first | obtain ⟨_, rfl⟩ := r.sh | obtain rfl := r.sh)
  have p' := p.run { s with heap := h₁, toks := tk₁ } E hr₁ (F.tr t₁)
  rw [he] at p' ⊢
  refine callWith_builtin (by show (false || (backTo pos (starEach es env)).any (·.1)) = false; rw [hplain]; rfl) (evalArgs_plain (useL p' fun as vs H₂ h₂ tk₂ p₂ r₂ hr₂ t₂ => ?_))
  exact back (t₁.trans' t₂) (p₂.run { s with heap := h₂, toks := tk₂ } E vs hr₂ r₂)
theorem ex_callT {x : Str} {px pos : Pos} {e : Expr} {es : List Expr} {T : String}
    (h : EX prog w B A env l (.Name x px) H fun a H₁ => a = .val (.type T) ∧ EL prog w B A env l pos (e :: es) H₁ fun as H₂ => OP prog w B A H₂ as (cl (.type T)) P)
    (he : starEach (e :: es) env = (false, eval e env) :: starEach es env := by rfl) (hplain : (backTo pos (starEach es env)).any (·.1) = false := by rfl) : EX prog w B A env l (.Call (.Name x px) (e :: es) [] pos) H P := .mk fun s E hr F => by
  refine wpAny_Call_ofName (use (h.run s E hr F) fun a v H₁ h₁ tk₁ p r hr₁ t₁ => ?_)
  obtain ⟨rfl, p⟩ := p
  (first | obtain ⟨_, rfl⟩ := r.sh | obtain rfl := r.sh)
  refine PyProof.Rows.callWith_type1 (useL (p.run { s with heap := h₁, toks := tk₁ } E hr₁ (F.tr t₁)) fun as vs H₂ h₂ tk₂ p₂ r₂ hr₂ t₂ => ?_) he hplain
  exact back (t₁.trans' t₂) (p₂.run { s with heap := h₂, toks := tk₂ } E vs hr₂ r₂)
theorem ex_callT0 {x : Str} {px pos : Pos} {T : String}
    (h : EX prog w B A env l (.Name x px) H fun a H₁ => a = .val (.type T) ∧ OP prog w B A H₁ [] (cl (.type T)) P) : EX prog w B A env l (.Call (.Name x px) [] [] pos) H P := .mk fun s E hr F => by
  refine wpAny_Call_ofName (use (h.run s E hr F) fun a v H₁ h₁ tk₁ p r hr₁ t₁ => ?_)
  obtain ⟨rfl, p⟩ := p
  (first | obtain ⟨_, rfl⟩ := r.sh | obtain rfl := r.sh)
  exact PyProof.Rows.callWith_type0 (back t₁ (p.run { s with heap := h₁, toks := tk₁ } E [] hr₁ .nil))

noncomputable def IsT (B : GB) (H : HP) (a : AV) (T : String) : Prop := ∀ (s : Shared) (v : Value), HR B H s.heap → VR H s.heap a v → s.TypeIs v T ∧ ∀ c, v = .ref c → ∃ ob, s.heap.get? c = some ob ∧ ob.dict = none
theorem isT_str {x : Str} : IsT B H (.str x) "str" := fun s v hr r => by (first | obtain ⟨_, rfl⟩ := r.sh | obtain rfl := r.sh); exact ⟨rfl, fun c e => nomatch e⟩
theorem isT_lst {as : List AV} : IsT B H (.lst as) "list" := fun s v hr r => by cases r with | lst k e r => exact ⟨⟨_, e, rfl⟩, fun c q => by cases q; exact ⟨_, e, rfl⟩⟩
theorem isT_tup {as : List AV} : IsT B H (.tup as) "tuple" := fun s v hr r => by cases r with | tup e r => exact ⟨⟨_, e, rfl⟩, fun c q => by cases q; exact ⟨_, e, rfl⟩⟩
theorem isT_list {a : Addr} (h : a ∈ keys H) : IsT B H (.list a) "list" := fun s v hr r => by
  (first | obtain ⟨_, rfl⟩ := r.sh | obtain rfl := r.sh)
  obtain ⟨p, hp, rfl⟩ := List.mem_map.mp h
  obtain ⟨vs, n, e, _⟩ := hr.list p hp
  exact ⟨⟨_, e, rfl⟩, fun c q => by cases q; exact ⟨_, e, rfl⟩⟩

noncomputable abbrev KArgs (prog : Program) (w : World) (B : GB) (A : Around) (T id : String) (P : AV → HP → Prop) (a : AV) (as : List AV) (H₂ : HP) : Prop := IsT B H₂ a T ∧ OP prog w B A H₂ (a :: as) (cl (.builtin id)) P
noncomputable abbrev KMeth (prog : Program) (w : World) (B : GB) (A : Around) (env : Env) (l : Loc) (pos : Pos) (es : List Expr) (T id : String) (P : AV → HP → Prop) (a : AV) (H₁ : HP) : Prop := IsT B H₁ a T ∧ EL prog w B A env l pos es H₁ (KArgs prog w B A T id P a)
noncomputable abbrev KMeth0 (prog : Program) (w : World) (B : GB) (A : Around) (T id : String) (P : AV → HP → Prop) (a : AV) (H₁ : HP) : Prop := IsT B H₁ a T ∧ OP prog w B A H₁ [a] (cl (.builtin id)) P
theorem ex_meth {o e : Expr} {es : List Expr} {name : Str} {apos pos : Pos} {T id : String} (pa : PlainAttrs T) (slot : Slot T name id) (hty : typeOf (.builtin id) = pure (.type "method_descriptor"))
    (h : EX prog w B A env l o H (KMeth prog w B A env l pos (e :: es) T id P))
    (hbase : attributeBase o name env (eval o env) = eval o env := by rfl)
    (hfew : ((backTo pos (starEach (e :: es) env)).all (fun x => !x.1) && (backToKw pos (keywordEach [] env)).all (fun x => x.1.isSome)
      && decide ((e :: es).length + ([] : List Keyword).length + (if ([] : List Keyword).isEmpty then 0 else 1) < 30)) = true := by rfl)
    (hline : (apos.endLine == pos.line) = true := by rfl) (hplain : (backTo pos (starEach (e :: es) env)).any (·.1) = false := by rfl)
    (he : starEach (e :: es) env = (false, eval e env) :: starEach es env := by rfl) :
    EX prog w B A env l (.Call (.Attribute o name apos) (e :: es) [] pos) H P := .mk fun s E hr F => by
  refine wpAny_Call_method_late hbase hfew hline rfl (use (h.run s E hr F) fun a v H₁ h₁ tk₁ p r hr₁ t₁ => ?_)
  obtain ⟨hT, p⟩ := p
  refine ⟨T, id, pa, slot, hty, (hT { s with heap := h₁, toks := tk₁ } v hr₁ r).1, (hT { s with heap := h₁, toks := tk₁ } v hr₁ r).2, callWith_builtin hplain ?_⟩
  have p' := p.run { s with heap := h₁, toks := tk₁ } E hr₁ (F.tr t₁)
  rw [he] at p' ⊢
  refine evalArgs_plain (useL p' fun as vs H₂ h₂ tk₂ p₂ r₂ hr₂ t₂ => ?_)
  exact back (t₁.trans' t₂) (p₂.2.run { s with heap := h₂, toks := tk₂ } E (v :: vs) hr₂ (.cons (r.tr' t₂) r₂))
theorem ex_meth0 {o : Expr} {name : Str} {apos pos : Pos} {T id : String} (pa : PlainAttrs T) (slot : Slot T name id) (hty : typeOf (.builtin id) = pure (.type "method_descriptor"))
    (h : EX prog w B A env l o H (KMeth0 prog w B A T id P))
    (hbase : attributeBase o name env (eval o env) = eval o env := by rfl) (hline : (apos.endLine == pos.line) = true := by rfl) :
    EX prog w B A env l (.Call (.Attribute o name apos) [] [] pos) H P := .mk fun s E hr F => by
  refine wpAny_Call_method0_late hbase hline (use (h.run s E hr F) fun a v H₁ h₁ tk₁ p r hr₁ t₁ => ?_)
  obtain ⟨hT, p⟩ := p
  refine ⟨T, id, pa, slot, hty, (hT { s with heap := h₁, toks := tk₁ } v hr₁ r).1, (hT { s with heap := h₁, toks := tk₁ } v hr₁ r).2, callWith_builtin rfl (PyProof.Rows.evalArgs_nil3 ?_)⟩
  exact back t₁ (p.run { s with heap := h₁, toks := tk₁ } E [v] hr₁ (.cons r .nil))
end
end Mine
namespace Mine
open PySem PySem.Calls

theorem short_list {n : Nat} (h : n ≤ 100000) : Builtin.List.listTooLong n = false := by
  unfold Builtin.List.listTooLong
  rw [sizeLine_eq]
  exact decide_eq_false (by omega)

section
variable {prog : Program} {w : World} {B : GB} {A : Around} {H : HP} {P : AV → HP → Prop}
theorem op2 {a b : AV} {t : Value → Value → Sem Value} (h : ∀ (s : Shared) (E : Value → Shared → Prop) (v u : Value), HR B H s.heap → VR H s.heap a v → VR H s.heap b u → wpAny (model prog w) A (t v u) (Post B s H P) E s) : OP prog w B A H [a, b] (bin t) P := .mk fun s E vs hr r => by
  obtain ⟨v, u, rfl, r1, r2⟩ := r.two
  exact h s E v u hr r1 r2
theorem opc1 {f : Value} {a : AV} (h : ∀ (s : Shared) (E : Value → Shared → Prop) (v : Value), HR B H s.heap → VR H s.heap a v → wpAny (model prog w) A (call f [v]) (Post B s H P) E s) : OP prog w B A H [a] (cl f) P := .mk fun s E vs hr r => by
  obtain ⟨v, rfl, r1⟩ := r.one
  exact h s E v hr r1
theorem opc2 {f : Value} {a b : AV} (h : ∀ (s : Shared) (E : Value → Shared → Prop) (v u : Value), HR B H s.heap → VR H s.heap a v → VR H s.heap b u → wpAny (model prog w) A (call f [v, u]) (Post B s H P) E s) : OP prog w B A H [a, b] (cl f) P := .mk fun s E vs hr r => by
  obtain ⟨v, u, rfl, r1, r2⟩ := r.two
  exact h s E v u hr r1 r2
-- ints
theorem op_add {i j : Int} (p : P (.int (i + j)) H) : OP prog w B A H [.int i, .int j] (bin (binaryOp .Add)) P := op2 fun s E v u hr r r' => by (first | obtain ⟨_, rfl⟩ := r.sh | obtain rfl := r.sh); (first | obtain ⟨_, rfl⟩ := r'.sh | obtain rfl := r'.sh); exact PyProof.Rows.add_int (.tok p (.int ..) hr)
theorem op_sub {i j : Int} (p : P (.int (i - j)) H) : OP prog w B A H [.int i, .int j] (bin (binaryOp .Sub)) P := op2 fun s E v u hr r r' => by (first | obtain ⟨_, rfl⟩ := r.sh | obtain rfl := r.sh); (first | obtain ⟨_, rfl⟩ := r'.sh | obtain rfl := r'.sh); exact PyProof.Rows.sub_int (.tok p (.int ..) hr)
theorem op_fdiv {i j : Int} (hj : j ≠ 0) (hs : j.natAbs < 1073741824) (p : P (.int (i.fdiv j)) H) : OP prog w B A H [.int i, .int j] (bin (binaryOp .FloorDiv)) P := op2 fun s E v u hr r r' => by (first | obtain ⟨_, rfl⟩ := r.sh | obtain rfl := r.sh); (first | obtain ⟨_, rfl⟩ := r'.sh | obtain rfl := r'.sh); exact PyProof.Rows.floordiv_int hj (.tok p (.int ..) hr) (.inl (PyProof.noPylong_small hs))
theorem op_fmod {i j : Int} (hj : j ≠ 0) (p : P (.int (i.fmod j)) H) : OP prog w B A H [.int i, .int j] (bin (binaryOp .Mod)) P := op2 fun s E v u hr r r' => by (first | obtain ⟨_, rfl⟩ := r.sh | obtain rfl := r.sh); (first | obtain ⟨_, rfl⟩ := r'.sh | obtain rfl := r'.sh); exact PyProof.Rows.mod_int hj (.tok p (.int ..) hr)
theorem op_pow {i j : Int} (h0 : 0 ≤ j) (hsz : (Builtin.Int.intBits i : Int) * j ≤ 2 ^ 27) (p : P (.int (i ^ j.toNat)) H) : OP prog w B A H [.int i, .int j] (bin (binaryOp .Pow)) P := op2 fun s E v u hr r r' => by (first | obtain ⟨_, rfl⟩ := r.sh | obtain rfl := r.sh); (first | obtain ⟨_, rfl⟩ := r'.sh | obtain rfl := r'.sh); exact PyProof.Rows.pow_int h0 hsz (.tok p (.int ..) hr)
theorem op_and {i j : Int} (p : P (.int (Builtin.bitAnd i j)) H) : OP prog w B A H [.int i, .int j] (bin (binaryOp .BitAnd)) P := op2 fun s E v u hr r r' => by (first | obtain ⟨_, rfl⟩ := r.sh | obtain rfl := r.sh); (first | obtain ⟨_, rfl⟩ := r'.sh | obtain rfl := r'.sh); exact PyProof.Rows.and_int (.tok p (.int ..) hr)
theorem op_iadd {i j : Int} (p : P (.int (i + j)) H) : OP prog w B A H [.int i, .int j] (bin (inplaceOp .Add)) P := op2 fun s E v u hr r r' => by (first | obtain ⟨_, rfl⟩ := r.sh | obtain rfl := r.sh); (first | obtain ⟨_, rfl⟩ := r'.sh | obtain rfl := r'.sh); exact PyProof.Rows.iadd_int (.tok p (.int ..) hr)
theorem op_subb {a b : Bool} (p : P (.int (PyProof.Rows.b2i a - PyProof.Rows.b2i b)) H) : OP prog w B A H [.bool a, .bool b] (bin (binaryOp .Sub)) P := op2 fun s E v u hr r r' => by (first | obtain ⟨_, rfl⟩ := r.sh | obtain rfl := r.sh); (first | obtain ⟨_, rfl⟩ := r'.sh | obtain rfl := r'.sh); exact PyProof.Rows.sub_bool (.tok p (.int ..) hr)
theorem op_lt {i j : Int} (p : P (.bool (decide (i < j))) H) : OP prog w B A H [.int i, .int j] (bin (compareOp .Lt)) P := op2 fun s E v u hr r r' => by (first | obtain ⟨_, rfl⟩ := r.sh | obtain rfl := r.sh); (first | obtain ⟨_, rfl⟩ := r'.sh | obtain rfl := r'.sh); exact PyProof.Rows.lt_int (.here p (.bool _) hr)
theorem op_gt {i j : Int} (p : P (.bool (decide (j < i))) H) : OP prog w B A H [.int i, .int j] (bin (compareOp .Gt)) P := op2 fun s E v u hr r r' => by (first | obtain ⟨_, rfl⟩ := r.sh | obtain rfl := r.sh); (first | obtain ⟨_, rfl⟩ := r'.sh | obtain rfl := r'.sh); exact PyProof.Rows.gt_int (.here p (.bool _) hr)
theorem op_eq {i j : Int} (p : P (.bool (i == j)) H) : OP prog w B A H [.int i, .int j] (bin (compareOp .Eq)) P := op2 fun s E v u hr r r' => by (first | obtain ⟨_, rfl⟩ := r.sh | obtain rfl := r.sh); (first | obtain ⟨_, rfl⟩ := r'.sh | obtain rfl := r'.sh); exact PyProof.Rows.eq_int (.here p (.bool _) hr)
theorem op_ne {i j : Int} (p : P (.bool (i != j)) H) : OP prog w B A H [.int i, .int j] (bin (compareOp .NotEq)) P := op2 fun s E v u hr r r' => by (first | obtain ⟨_, rfl⟩ := r.sh | obtain rfl := r.sh); (first | obtain ⟨_, rfl⟩ := r'.sh | obtain rfl := r'.sh); exact PyProof.Rows.ne_int (.here p (.bool _) hr)
-- texts
theorem op_adds {x y : Str} (hsz : x.length + y.length ≤ 1000) (p : P (.str (x ++ y)) H) : OP prog w B A H [.str x, .str y] (bin (binaryOp .Add)) P := op2 fun s E v u hr r r' => by
  (first | obtain ⟨_, rfl⟩ := r.sh | obtain rfl := r.sh); (first | obtain ⟨_, rfl⟩ := r'.sh | obtain rfl := r'.sh); exact PyProof.Rows.add_str (fun t' tk => .tok p (.str ..) hr) (by rw [sizeLine_eq]; omega)
theorem op_eqs {x y : Str} (p : P (.bool (x == y)) H) : OP prog w B A H [.str x, .str y] (bin (compareOp .Eq)) P := op2 fun s E v u hr r r' => by (first | obtain ⟨_, rfl⟩ := r.sh | obtain rfl := r.sh); (first | obtain ⟨_, rfl⟩ := r'.sh | obtain rfl := r'.sh); exact PyProof.Rows.eq_str (.here p (.bool _) hr)
theorem op_nes {x y : Str} (p : P (.bool (x != y)) H) : OP prog w B A H [.str x, .str y] (bin (compareOp .NotEq)) P := op2 fun s E v u hr r r' => by (first | obtain ⟨_, rfl⟩ := r.sh | obtain rfl := r.sh); (first | obtain ⟨_, rfl⟩ := r'.sh | obtain rfl := r'.sh); exact PyProof.Rows.ne_str (.here p (.bool _) hr)
theorem op_lts {x y : Str} (p : P (.bool (decide (x.cps.toList < y.cps.toList))) H) : OP prog w B A H [.str x, .str y] (bin (compareOp .Lt)) P := op2 fun s E v u hr r r' => by (first | obtain ⟨_, rfl⟩ := r.sh | obtain rfl := r.sh); (first | obtain ⟨_, rfl⟩ := r'.sh | obtain rfl := r'.sh); exact PyProof.Rows.lt_str (.here p (.bool _) hr)
theorem op_gts {x y : Str} (p : P (.bool (decide (y.cps.toList < x.cps.toList))) H) : OP prog w B A H [.str x, .str y] (bin (compareOp .Gt)) P := op2 fun s E v u hr r r' => by (first | obtain ⟨_, rfl⟩ := r.sh | obtain rfl := r.sh); (first | obtain ⟨_, rfl⟩ := r'.sh | obtain rfl := r'.sh); exact PySem.P.gt_str (.here p (.bool _) hr)
-- lists
theorem VR.lstInv {h : Heap} {as : List AV} {v : Value} (r : VR H h (.lst as) v) : ∃ a vs n, v = .ref a ∧ a ∉ keys H ∧ h.get? a = some (lob vs n) ∧ VRs H h as vs.toList := by
  cases r with
  | lst k e r => exact ⟨_, _, _, rfl, k, e, r⟩
theorem VRs.size {h : Heap} {as : List AV} {vs : Array Value} (r : VRs H h as vs.toList) : vs.size = as.length := by rw [r.length, Array.length_toList]
theorem op_addl {xs ys : List AV} (hsz : xs.length + ys.length ≤ 1000) (p : P (.lst (xs ++ ys)) H) : OP prog w B A H [.lst xs, .lst ys] (bin (binaryOp .Add)) P := op2 fun s E v u hr r r' => by
  obtain ⟨a, vs, n, rfl, k, e, rs⟩ := r.lstInv
  obtain ⟨b, us, m, rfl, k', e', rs'⟩ := r'.lstInv
  refine PySem.P.add_list (s := s) e e' ?_ (by rw [sizeLine_eq, rs.size, rs'.size]; omega)
  exact Post.grown (fun b o e => Heap.get?_push_of_some _ e) p (VR.pushLst hr (by simpa using rs.append rs')) hr
theorem VRs.flatten {h : Heap} {as : List AV} {vs : List Value} (r : VRs H h as vs) : ∀ k : Nat, VRs H h (List.replicate k as).flatten (List.replicate k vs).flatten
  | 0 => .nil
  | k + 1 => by simpa [List.replicate_succ] using r.append (r.flatten k)
theorem foldl_rep (vs : Array Value) : ∀ (k : Nat) (acc : Array Value), (List.foldl (fun x1 x2 => x1 ++ x2) acc (List.replicate k vs)).toList = acc.toList ++ (List.replicate k vs.toList).flatten
  | 0, acc => by simp
  | k + 1, acc => by rw [List.replicate_succ, List.foldl_cons, foldl_rep vs k]; simp [List.replicate_succ]
theorem mul_any {s : Shared} {E : Value → Shared → Prop} {Q : Value → Shared → Prop} {l : Addr} {items : Array Value} {n : Nat} {k : Int} {u : Tok} (hl : s.heap.get? l = some (lob items n)) (h0 : 0 ≤ k) (hk : k ≤ 10) (hn : items.size ≤ 1000)
    (h : ∀ vs, vs.toList = (List.replicate k.toNat items.toList).flatten → Q (.ref s.heap.objs.size) { s with heap := s.heap.push (lob vs 0) }) : wpAny (model prog w) A (binaryOp .Mult (.ref l) (.int k u)) Q E s := by
  have hL : s.TypeIs (.ref l) "list" := ⟨_, hl, rfl⟩
  have hI : ∀ s' : Shared, s'.TypeIs (.int k u) "int" := fun _ => rfl
  have hm : items.size * k.toNat ≤ 10000 := by
    calc items.size * k.toNat ≤ 1000 * k.toNat := Nat.mul_le_mul_right _ hn
      _ ≤ 1000 * 10 := Nat.mul_le_mul_left _ (by omega)
      _ = 10000 := rfl
  have c0 : ¬(!Builtin.List.listFitsIndex k) = true := by simp [Builtin.List.listFitsIndex]; omega
  have c1 : ¬items.size * k.toNat > (2 ^ 63 - 1) / 8 := by
    have : (10000 : Nat) ≤ (2 ^ 63 - 1) / 8 := by decide
    omega
  have c2 : ¬Builtin.List.listTooLong (items.size * k.toNat) = true := by rw [short_list (by omega)]; decide
  refine wpAny_binaryOp_repeat_ref (T := "list") (U := "int") (by decide) hL hI noFill_list_mul F.fills_int_mul F.slot_int_rmul repeat_list F.slot_int_index.lookup
    (call_meets F.slot_int_rmul (hI s) F.entry_int_rmul (F.args_int_rmul_2 _ _) (lm_int_rmul_list_any k u l items n none #[])
      ⟨hl, rfl, hL, call_meets F.slot_list_mul hL F.entry_list_mul (F.args_list_mul_2 _ _)
        (lm_list_mul_any l items n none #[] k u c0 c1 c2)
        ⟨hl, ?_⟩⟩)
  refine h _ ?_
  rw [foldl_rep]
  by_cases he : items.isEmpty = true
  · have : items.toList = [] := by simpa using he
    simp [he, this]
  · simp [he]
theorem op_mull {xs : List AV} {k : Int} (h0 : 0 ≤ k) (hk : k ≤ 10) (hsz : xs.length ≤ 1000) (p : P (.lst (List.replicate k.toNat xs).flatten) H) : OP prog w B A H [.lst xs, .int k] (bin (binaryOp .Mult)) P := op2 fun s E v u hr r r' => by
  obtain ⟨a, vs, n, rfl, kk, e, rs⟩ := r.lstInv
  (first | obtain ⟨_, rfl⟩ := r'.sh | obtain rfl := r'.sh)
  refine mul_any e h0 hk (by rw [rs.size]; omega) fun us hu => ?_
  exact Post.grown (fun b o e => Heap.get?_push_of_some _ e) p (VR.pushLst hr (by rw [hu]; exact rs.flatten _)) hr
theorem op_mullT {xs : List AV} {k : Int} (h0 : 0 ≤ k) (hk : k ≤ 10) (hsz : xs.length ≤ 1000) (p : ∀ a, P (.list a) ((a, (List.replicate k.toNat xs).flatten) :: H)) : OP prog w B A H [.lst xs, .int k] (bin (binaryOp .Mult)) P := op2 fun s E v u hr r r' => by
  obtain ⟨a, vs, n, rfl, kk, e, rs⟩ := r.lstInv
  (first | obtain ⟨_, rfl⟩ := r'.sh | obtain rfl := r'.sh)
  refine mul_any e h0 hk (by rw [rs.size]; omega) fun us hu => ?_
  exact ⟨.list _, _, _, _, rfl, p _, .list _, hr.pushNew (by rw [hu]; exact rs.flatten _), .pushNew⟩

theorem HR.upd {H₁ H₂ : HP} {a : Addr} {xs xs' : List AV} {h h' : Heap} {vs' : Array Value} {n' : Nat} (hr : HR B (H₁ ++ (a, xs) :: H₂) h) (hs : Heap.SameBut a h h') (e : h'.get? a = some (lob vs' n'))
    (r : VRs (H₁ ++ (a, xs) :: H₂) h xs' vs'.toList) : HR B (H₁ ++ (a, xs') :: H₂) h' ∧ Tr nowhere (H₁ ++ (a, xs) :: H₂) h (H₁ ++ (a, xs') :: H₂) h' := by
  have ek : keys (H₁ ++ (a, xs') :: H₂) = keys (H₁ ++ (a, xs) :: H₂) := by simp [keys]
  obtain ⟨vs, n, e₀, r₀⟩ := hr.list (a, xs) (by simp)
  have t : Tr nowhere (H₁ ++ (a, xs) :: H₂) h (H₁ ++ (a, xs') :: H₂) h' := by
    refine ⟨fun b o _ q => ?_, fun b hb => .inl (ek ▸ hb)⟩
    by_cases hb : b = a
    · subst hb
      rw [e₀] at q; cases q
      exact .inr ⟨by simp [keys], ⟨vs, n, rfl⟩, vs', n', e⟩
    · exact .inl (.inl ((hs.2 b hb).trans q))
  refine ⟨⟨fun b o q => ?_, fun p hp => ?_, fun b hb => hr.new b (ek ▸ hb), by rw [ek]; exact hr.nodup, fun L hL => ?_⟩, t⟩
  · have : b ≠ a := fun z => by
      have := hr.new a (by simp [keys])
      rw [z] at q; rw [this] at q; cases q
    exact (hs.2 b this).trans (hr.keep b o q)
  · by_cases hpa : p.1 = a
    · have hnd : (keys (H₁ ++ (a, xs') :: H₂)).Nodup := by rw [ek]; exact hr.nodup
      have : p = (a, xs') := by
        rcases List.mem_append.mp hp with hp | hp
        · exfalso
          have h1 := (List.nodup_append.mp (by simpa [keys] using hnd)).2.2
          exact h1 p.1 (List.mem_map_of_mem hp) a (by simp) hpa
        · rcases List.mem_cons.mp hp with hp | hp
          · exact hp
          · exfalso
            have h1 := (List.nodup_append.mp (by simpa [keys] using hnd)).2.1
            exact (List.nodup_cons.mp h1).1 (hpa ▸ List.mem_map_of_mem hp)
      subst this
      exact ⟨vs', n', e, r.tr' t⟩
    · have : p ∈ H₁ ++ (a, xs) :: H₂ := by
        rcases List.mem_append.mp hp with hp | hp
        · exact List.mem_append.mpr (.inl hp)
        · rcases List.mem_cons.mp hp with hp | hp
          · subst hp; exact absurd rfl hpa
          · exact List.mem_append.mpr (.inr (.tail _ hp))
      obtain ⟨us, m, e₁, r₁⟩ := hr.list p this
      exact ⟨us, m, (hs.2 _ hpa).trans e₁, r₁.tr' t⟩
  · obtain ⟨m, hm⟩ := hr.alive L hL
    refine ⟨m, hm.sameBut hs fun q => ?_⟩
    subst q
    exact (ns_not_list hm e₀).1 vs n rfl
theorem mapSeq_lob (vs : Array Value) (n : Nat) (f : Array Value → Array Value) : ∃ m, Obj.mapSeq f (lob vs n) = lob (f vs) m := by
  unfold Obj.mapSeq lob
  exact ⟨_, rfl⟩
theorem Post.changed {s : Shared} {H₁ H₂ : HP} {a : Addr} {xs xs' : List AV} {vs : Array Value} {n : Nat} {f : Array Value → Array Value} {av : AV} {v : Value} {tk : Nat} (hr : HR B (H₁ ++ (a, xs) :: H₂) s.heap) (e : s.heap.get? a = some (lob vs n))
    (r : VRs (H₁ ++ (a, xs) :: H₂) s.heap xs' (f vs).toList) (rv : VR (H₁ ++ (a, xs) :: H₂) s.heap av v) (p : P av (H₁ ++ (a, xs') :: H₂)) : Post B s (H₁ ++ (a, xs) :: H₂) P v { s with heap := s.heap.update a (Obj.mapSeq f), toks := tk } := by
  obtain ⟨m, em⟩ := mapSeq_lob vs n f
  have e' : (s.heap.update a (Obj.mapSeq f)).get? a = some (lob (f vs) m) := by
    have := Heap.get?_update_self (Obj.mapSeq f) e (by rw [em]; rfl)
    rw [this, em]
  obtain ⟨hr', t⟩ := hr.upd (Heap.SameBut.update ..) e' r
  exact ⟨av, _, _, _, rfl, p, rv.tr' t, hr', t⟩
end

section
variable {prog : Program} {w : World} {B : GB} {A : Around} {H : HP} {P : AV → HP → Prop} {H₁ H₂ : HP} {a : Addr} {xs : List AV}
theorem HR.at {h : Heap} (hr : HR B (H₁ ++ (a, xs) :: H₂) h) : ∃ vs n, h.get? a = some (lob vs n) ∧ VRs (H₁ ++ (a, xs) :: H₂) h xs vs.toList := hr.list (a, xs) (by simp)
theorem op_append {x : AV} (hsz : xs.length ≤ 1000) (p : P .none (H₁ ++ (a, xs ++ [x]) :: H₂)) : OP prog w B A (H₁ ++ (a, xs) :: H₂) [.list a, x] (cl (.builtin "list.append")) P := opc2 fun s E v u hr r r' => by
  (first | obtain ⟨_, rfl⟩ := r.sh | obtain rfl := r.sh)
  obtain ⟨vs, n, e, rs⟩ := hr.at
  refine call_meets F.slot_list_append ⟨_, e, rfl⟩ F.entry_list_append (F.args_list_append_2 _ _) (list_append a vs n u (by rw [sizeLine_eq, rs.size]; omega)) ⟨e, ?_⟩
  exact Post.changed (f := fun x => x.push u) hr e (by simpa using rs.snoc r') .none p
theorem op_extend {ys : List AV} (hsz : xs.length + ys.length ≤ 1000) (p : P .none (H₁ ++ (a, xs ++ ys) :: H₂)) : OP prog w B A (H₁ ++ (a, xs) :: H₂) [.list a, .lst ys] (cl (.builtin "list.extend")) P := opc2 fun s E v u hr r r' => by
  (first | obtain ⟨_, rfl⟩ := r.sh | obtain rfl := r.sh)
  obtain ⟨vs, n, e, rs⟩ := hr.at
  obtain ⟨b, us, m, rfl, k, e', rs'⟩ := r'.lstInv
  have h1 : vs.size + us.size ≤ 1000 := by rw [rs.size, rs'.size]; exact hsz
  refine call_meets F.slot_list_extend ⟨_, e, rfl⟩ F.entry_list_extend (F.args_list_extend_2 _ _) (AutoSeq1.list_extend_list_list_0 a vs n b us m (by rw [short_list (by omega)]; simp) (by rw [sizeLine_eq]; omega) (by rw [sizeLine_eq]; omega)) ⟨e, e', ?_⟩
  exact Post.changed (f := fun x => x ++ us) hr e (by simpa using rs.append rs') .none p
end
end Mine
namespace Mine
open PySem PySem.Calls

noncomputable def KeepBut (W : Addr → Prop) (h h' : Heap) : Prop := ∀ b o, ¬ W b → h.get? b = some o → h'.get? b = some o
noncomputable def Plain (W : Addr → Prop) (h : Heap) : Prop := ∀ b o, W b → h.get? b = some o → Inert o
noncomputable def Shape (soft : Bool) (W : Addr → Prop) (h : Heap) : Prop := ∀ b o, W b → h.get? b = some o → (∃ fs, o.data = .fields fs ∧ ∀ id v, fs ≠ #[.builtin id, v]) ∨ (soft = true ∧ ∃ vs n, o = tob vs n)
theorem Shape.plain {W : Addr → Prop} {h : Heap} (x : Shape false W h) : Plain W h := fun b o hb e => by
  rcases x b o hb e with ⟨fs, q, hf⟩ | ⟨q, _⟩
  · unfold Inert; rw [q]; exact ⟨fun vs n z => (nomatch z), fun z => (nomatch z), fun id v z => hf id v (by injection z)⟩
  · cases q
theorem Shape.notNs {soft : Bool} {W : Addr → Prop} {h : Heap} (x : Shape soft W h) {L : Addr} {m : Str → Option Value} (hn : h.Ns L m) : ¬ W L := fun hb => by
  obtain ⟨o, es, ep, ho, hd, _⟩ := hn
  rcases x L o hb ho with ⟨fs, q, _⟩ | ⟨_, vs, n, q⟩
  · rw [hd] at q; cases q
  · rw [q] at hd; cases hd
theorem Shape.notCell {soft : Bool} {W : Addr → Prop} {h : Heap} (x : Shape soft W h) {c : Addr} {vo : Option Value} (hn : h.IsCell c vo) : ¬ W c := fun hb => by
  obtain ⟨o, ho, hd⟩ := hn
  rcases x c o hb ho with ⟨fs, q, _⟩ | ⟨_, vs, n, q⟩
  · rw [hd] at q; cases q
  · rw [q] at hd; cases hd
theorem Shape.notList {soft : Bool} {W : Addr → Prop} {h : Heap} (x : Shape soft W h) {c : Addr} {vs : Array Value} {n : Nat} (e : h.get? c = some (lob vs n)) : ¬ W c := fun hb => by
  rcases x c _ hb e with ⟨fs, q, _⟩ | ⟨_, vs, n, q⟩
  · cases q
  · have := congrArg Obj.cls q; simp [lob, tob] at this
theorem Tr.keepBut {W : Addr → Prop} {H : HP} {h h' : Heap} (k : KeepBut W h h') : Tr W H h H h' := ⟨fun b o hb e => .inl (.inl (k b o hb e)), fun _ hb => .inl hb⟩
theorem Heap.Ns.keepBut {W : Addr → Prop} {h h' : Heap} {L : Addr} {m : Str → Option Value} (hm : h.Ns L m) (k : KeepBut W h h') (hL : ¬ W L) : h'.Ns L m := hm.at' fun o e => k L o hL e
theorem HR.keepBut {B : GB} {W : Addr → Prop} {H : HP} {h h' : Heap} (hr : HR B H h) (k : KeepBut W h h') (hB : ∀ b, W b → B.get? b = none) (hA : ∀ L m, L ∈ B.live → h.Ns L m → ¬ W L)
    (hl : ∀ p, p ∈ H → ∀ vs n, h.get? p.1 = some (lob vs n) → ¬ W p.1) (vr : ∀ p, p ∈ H → ∀ vs, VRs H h p.2 vs → VRs H h' p.2 vs) : HR B H h' where
  keep := fun b o e => k b o (fun hb => by rw [hB b hb] at e; cases e) (hr.keep b o e)
  list := fun p hp => by
    obtain ⟨vs, n, e, r⟩ := hr.list p hp
    exact ⟨vs, n, k _ _ (hl p hp vs n e) e, vr p hp _ r⟩
  new := hr.new
  nodup := hr.nodup
  alive := fun L hL => let ⟨m, hm⟩ := hr.alive L hL; ⟨m, Heap.Ns.keepBut hm k (hA L m hL hm)⟩
theorem FR.trW {W : Addr → Prop} {H H' : HP} {env : Env} {l : Loc} {h h' : Heap} (F : FR H env l h) (x : Tr W H h H' h') (hL : ¬ W env.locals) (hc : ∀ x c vo, env.cells.lookup x = some c → h.IsCell c vo → ¬ W c)
    (vr : ∀ x a v, lk l x = some a → VR H h a v → VR H' h' a v) : FR H' env l h' where
  kind := F.kind
  glob := F.glob
  blt := F.blt
  ns := let ⟨m, hn, hv⟩ := F.ns; ⟨m, x.ns hL hn, fun y a e k => let ⟨v, e', r⟩ := hv y a e k; ⟨v, e', vr y a v e r⟩⟩
  cell := fun y a e k => let ⟨c, v, e', q, r⟩ := F.cell y a e k; ⟨c, v, e', x.isCell (hc y c _ e' q) q, vr y a v e r⟩
theorem FW.trW {B : GB} {W : Addr → Prop} {H H' : HP} {env : Env} {l : Loc} {h h' : Heap} (F : FW B H env l h) (x : Tr W H h H' h') (hL : ¬ W env.locals) (hc : ∀ x c vo, env.cells.lookup x = some c → h.IsCell c vo → ¬ W c)
    (vr : ∀ x a v, lk l x = some a → VR H h a v → VR H' h' a v) : FW B H' env l h' where
  toFR := F.toFR.trW x hL hc vr
  newL := F.newL
  cells := fun z y c e => let ⟨⟨vo, q⟩, r⟩ := F.cells z y c e; ⟨⟨vo, x.isCell (hc y c _ e q) q⟩, r⟩
  apart := F.apart
  all := F.all
theorem FW.less {B : GB} {H : HP} {env : Env} {l l' : Loc} {h : Heap} (F : FW B H env l h) (hl : ∀ x a, lk l' x = some a → lk l x = some a) : FW B H env l' h where
  kind := F.kind
  glob := F.glob
  blt := F.blt
  ns := let ⟨m, hn, hv⟩ := F.ns; ⟨m, hn, fun y a e k => hv y a (hl y a e) k⟩
  cell := fun y a e k => F.cell y a (hl y a e) k
  newL := F.newL
  cells := F.cells
  apart := F.apart
  all := F.all

mutual
noncomputable def tf : AV → Bool
  | .none | .bool _ | .int _ | .str _ | .list _ | .val _ => true
  | .lst l => tfs l
  | _ => false
noncomputable def tfs : List AV → Bool
  | [] => true
  | a :: l => tf a && tfs l
end
noncomputable def Softly (W : Addr → Prop) (h : Heap) : Prop := ∀ b vs n, W b → h.get? b ≠ some (lob vs n)
theorem VR.trS {W : Addr → Prop} {H H' : HP} {h h' : Heap} (x : Tr W H h H' h') (hW : Softly W h) {a : AV} {v : Value} (q : tf a = true) (r : VR H h a v) : VR H' h' a v := by
  refine VR.rec (motive_1 := fun a v _ => tf a = true → VR H' h' a v) (motive_2 := fun l vs _ => tfs l = true → VRs H' h' l vs) (fun _ => .none) (fun b _ => .bool b) (fun i t _ => .int i t) (fun s t _ => .str s t) (fun _ _ _ q => nomatch q) ?_ (fun a _ => .list a) (fun _ _ _ q => nomatch q) (fun _ _ _ _ _ q => nomatch q) (fun v _ => .val v)
    (fun _ _ _ _ _ q => nomatch q) (fun _ => .nil) (fun _ _ i j q => ?_) r q
  · intro l a vs n k e _ ih q
    exact .lst (x.unkey e k) ((x.frozen (fun z => hW _ vs n z e) e k).exact (by simp [lob])) (ih q)
  · obtain ⟨a, b⟩ := Bool.and_eq_true_iff.mp q
    exact .cons (i a) (j b)
theorem VRs.trS {W : Addr → Prop} {H H' : HP} {h h' : Heap} (x : Tr W H h H' h') (hW : Softly W h) {l : List AV} {vs : List Value} (q : tfs l = true) (r : VRs H h l vs) : VRs H' h' l vs :=
  r.rec' (M := fun l vs => tfs l = true → VRs H' h' l vs) (fun _ => .nil) (fun y _ i q => by
    obtain ⟨a, b⟩ := Bool.and_eq_true_iff.mp q
    exact .cons (y.trS x hW a) (i b)) q
theorem Shape.softly {soft : Bool} {W : Addr → Prop} {h : Heap} (x : Shape soft W h) : Softly W h := fun b vs n hb e => x.notList e hb

structure Wk (prog : Program) (w : World) (B : GB) (A : Around) (it : Value) (tgt : Expr) (fp : Addr → Prop) (soft : Bool) (seq : HP → Option (List AV)) (St : Nat → HP → Heap → Prop) (Mid : Nat → HP → Heap → Value → Prop) : Prop where
  shape : ∀ i H h, St i H h → Shape soft fp h
  keep : ∀ i H h H' h' (W : Addr → Prop), St i H h → Tr W H h H' h' → Plain W h → (∀ b, fp b → ¬ W b) → St i H' h'
  item : ∀ i H xs x (s : Shared) (E : Value → Shared → Prop), St i H s.heap → HR B H s.heap → seq H = some xs → xs[i]? = some x →
    wpAny (model prog w) A (pyNext it) (fun r s' => ∃ v h' tk, r = some v ∧ s' = { s with heap := h', toks := tk } ∧ VR H h' x v ∧ KeepBut fp s.heap h' ∧ Mid i H h' v) E s
  go : ∀ i H (s : Shared) v (E : Value → Shared → Prop), Mid i H s.heap v →
    wpAny (model prog w) A (letOwnedTupleGo tgt it v) (fun _ s' => ∃ h' tk W, s' = { s with heap := h', toks := tk } ∧ (∀ b, W b → fp b) ∧ Shape false W s.heap ∧ KeepBut W s.heap h' ∧ St (i + 1) H h') E s
  done : ∀ i H xs (s : Shared) (E : Value → Shared → Prop), St i H s.heap → HR B H s.heap → seq H = some xs → xs[i]? = none →
    wpAny (model prog w) A (pyNext it) (fun r s' => ∃ h' tk, r = none ∧ s' = { s with heap := h', toks := tk } ∧ KeepBut fp s.heap h') E s
  self : ∀ i H (s : Shared) (Q : Value → Shared → Prop) (E : Value → Shared → Prop), St i H s.heap → Q it s → wpAny (model prog w) A (pyIter it) Q E s

noncomputable def IPost (prog : Program) (w : World) (B : GB) (A : Around) (tgt : Expr) (soft : Bool) (s : Shared) (H : HP) (P : (HP → Option (List AV)) → HP → Prop) : Value → Shared → Prop := fun it s' =>
  ∃ H' h' tk fp St Mid seq, s' = { s with heap := h', toks := tk } ∧ P seq H' ∧ Wk prog w B A it tgt fp soft seq St Mid ∧ St 0 H' h' ∧ (∀ b, fp b → s.heap.get? b = none) ∧ HR B H' h' ∧ Tr nowhere H s.heap H' h'

section
variable (prog : Program) (w : World) (B : GB) (A : Around) (env : Env) (l : Loc)
structure ITX (iter tgt : Expr) (soft : Bool) (H : HP) (P : (HP → Option (List AV)) → HP → Prop) : Prop where
  run : ∀ (s : Shared) (E : Value → Shared → Prop), HR B H s.heap → FR H env l s.heap →
      wpAny (model prog w) A (eval iter env) (fun x s₁ => wpAny (model prog w) A (pyIter x) (IPost prog w B A tgt soft s H P) E s₁) E s
structure ITR (tgt : Expr) (soft : Bool) (a : AV) (H : HP) (P : (HP → Option (List AV)) → HP → Prop) : Prop where
  run : ∀ (s : Shared) (E : Value → Shared → Prop) (v : Value), HR B H s.heap → VR H s.heap a v → wpAny (model prog w) A (pyIter v) (IPost prog w B A tgt soft s H P) E s
end

section
variable {prog : Program} {w : World} {A : Around} {R : Result → Shared → Prop}
noncomputable abbrev FE (prog : Program) (w : World) (A : Around) (env : Env) (R : Result → Shared → Prop) : Value → Shared → Prop := notedBy (model prog w) A env fun e s' => R (.error e) s'
noncomputable def FT3 (R : Result → Shared → Prop) (I : Nat → Shared → Prop) (n : Nat) (f : Flow) (s₃ : Shared) : Prop := match f with
  | .next | .cont => ∃ m, m < n ∧ I m s₃
  | .brk => R (.ok .next) s₃
  | .ret v => R (.ok (.ret v)) s₃
noncomputable def FT2 (prog : Program) (w : World) (A : Around) (R : Result → Shared → Prop) (body : List Stmt) (env : Env) (I : Nat → Shared → Prop) (n : Nat) (_ : Unit) (s₂ : Shared) : Prop :=
  wpAny (model prog w) A (execs body env) (FT3 R I n) (FE prog w A env R) s₂
noncomputable def FT1 (prog : Program) (w : World) (A : Around) (R : Result → Shared → Prop) (target : Expr) (body : List Stmt) (env : Env) (I : Nat → Shared → Prop) (n : Nat) (v : Value) (_ : Unit) (s₁ : Shared) : Prop :=
  wpAny (model prog w) A (assign target env v) (FT2 prog w A R body env I n) (FE prog w A env R) s₁
noncomputable def FT0 (prog : Program) (w : World) (A : Around) (R : Result → Shared → Prop) (target : Expr) (it : Value) (body orelse : List Stmt) (env : Env) (I : Nat → Shared → Prop) (n : Nat) (r : Option Value) (s₁ : Shared) : Prop := match r with
  | none => wpAny (model prog w) A (execs orelse env) (fun f s₃ => R (.ok f) s₃) (FE prog w A env R) s₁
  | some v => wpAny (model prog w) A (letOwnedTupleGo target it v) (FT1 prog w A R target body env I n v) (FE prog w A env R) s₁
theorem forLoop_go {target body orelse env} {it : Value} (I : Nat → Shared → Prop)
    (turn : ∀ n s, I n s → wpAny (model prog w) A (pyNext it) (FT0 prog w A R target it body orelse env I n) (FE prog w A env R) s)
    (n : Nat) {s : Shared} (h : I n s) : codeAny (model prog w) A (.forLoop target it body orelse env) R s := by
  refine codeAny_loop' rfl I (fun n s hI => ?_) n h
  show wpAny _ _ ((forTurn target it body orelse env).onRaise (fun x => do noteFrame x env; theTreesLotGoes x)) _ _ s
  refine wpAny_noted ?_
  simp only [forTurn]
  refine wpAny_bind (wpAny_standAt (wpAny_bind (wpAny_onRaise (wpAny_mono (turn n s hI) (fun r s₁ h₁ => ?_) fun _ _ h' => wpAny_standAt h'))))
  cases r with
  | none => exact wpAny_pure (.inr ⟨rfl, codeAny_block h₁⟩)
  | some v =>
    refine wpAny_bind (wpAny_mono (show wpAny (model prog w) A (letOwnedTupleGo target it v) (FT1 prog w A R target body env I n v) (FE prog w A env R) s₁ from h₁) (fun _ s₂ h₂ => ?_) fun _ _ h' => h')
    refine wpAny_bind (wpAny_mono (show wpAny (model prog w) A (assign target env v) (FT2 prog w A R body env I n) (FE prog w A env R) s₂ from h₂) (fun _ s₂ h₂ => wpAny_bind (wpAny_mono (show wpAny (model prog w) A (execs body env) (FT3 R I n) (FE prog w A env R) s₂ from h₂) (fun f s₃ h₃ => ?_) fun _ _ h' => h')) fun _ _ h' => h')
    cases f with
    | next => exact wpAny_pure (.inl ⟨rfl, h₃⟩)
    | cont => exact wpAny_pure (.inl ⟨rfl, h₃⟩)
    | brk => exact wpAny_pure h₃
    | ret v => exact wpAny_pure h₃
noncomputable abbrev ifsT (ifs : List Expr) (env : Env) : Sem Bool := forIn ifs true fun c r => if r = true then do let ok ← isTrue c env (eval c env); pure (ForInStep.yield ok) else pure (ForInStep.yield r)
noncomputable def CT5 (I : Nat → Shared → Prop) (n : Nat) {α : Type} (_ : α) (s₅ : Shared) : Prop := ∃ m, m < n ∧ I m s₅
noncomputable def CT4 (prog : Program) (w : World) (A : Around) (R : Result → Shared → Prop) (acc : Value) (env : Env) (I : Nat → Shared → Prop) (n : Nat) (x : Value) (s₄ : Shared) : Prop :=
  wpAny (model prog w) A (call (.builtin "list.append") [acc, x]) (CT5 I n) (FE prog w A env R) s₄
noncomputable def CT3 (prog : Program) (w : World) (A : Around) (R : Result → Shared → Prop) (elt : Expr) (acc : Value) (env : Env) (I : Nat → Shared → Prop) (n : Nat) (ok : Bool) (s₃ : Shared) : Prop :=
  if ok = true then wpAny (model prog w) A (eval elt env) (CT4 prog w A R acc env I n) (FE prog w A env R) s₃ else ∃ m, m < n ∧ I m s₃
noncomputable def CT2 (prog : Program) (w : World) (A : Around) (R : Result → Shared → Prop) (elt : Expr) (ifs : List Expr) (acc : Value) (env : Env) (I : Nat → Shared → Prop) (n : Nat) (_ : Unit) (s₂ : Shared) : Prop :=
  wpAny (model prog w) A (ifsT ifs env) (CT3 prog w A R elt acc env I n) (FE prog w A env R) s₂
noncomputable def CT1 (prog : Program) (w : World) (A : Around) (R : Result → Shared → Prop) (target elt : Expr) (ifs : List Expr) (acc : Value) (env : Env) (I : Nat → Shared → Prop) (n : Nat) (v : Value) (_ : Unit) (s₁ : Shared) : Prop :=
  wpAny (model prog w) A (assign target env v) (CT2 prog w A R elt ifs acc env I n) (FE prog w A env R) s₁
noncomputable def CT0 (prog : Program) (w : World) (A : Around) (R : Result → Shared → Prop) (target elt : Expr) (ifs : List Expr) (it acc : Value) (env : Env) (I : Nat → Shared → Prop) (n : Nat) (r : Option Value) (s₁ : Shared) : Prop := match r with
  | none => R (.ok .next) s₁
  | some v => wpAny (model prog w) A (letOwnedTupleGo target it v) (CT1 prog w A R target elt ifs acc env I n v) (FE prog w A env R) s₁
theorem compLoop_go {elt target iter : Expr} {ifs : List Expr} {scope : Scope} {pos : Pos} {it acc : Value} {env : Env} (I : Nat → Shared → Prop)
    (turn : ∀ n s, I n s → wpAny (model prog w) A (pyNext it) (CT0 prog w A R target elt ifs it acc env I n) (FE prog w A env R) s)
    (n : Nat) {s : Shared} (h : I n s) :
    codeAny (model prog w) A (.compLoop (.ListComp elt [⟨target, iter, ifs, 0⟩] scope pos) 0 it acc env) R s := by
  refine codeAny_loop rfl I (fun n s hI => ?_) n h
  show wpAny _ A ((compTurn (.ListComp elt [⟨target, iter, ifs, 0⟩] scope pos) 0 it acc env).onRaise (fun x => do noteFrame x env; theTreesLotGoes x)) _ _ s
  refine wpAny_noted ?_
  rw [compTurn_list]
  refine wpAny_bind (wpAny_standAt (wpAny_bind (wpAny_mono (turn n s hI) (fun r s₁ h₁ => ?_) fun _ _ h' => h')))
  cases r with
  | none => exact wpAny_pure h₁
  | some v =>
    refine wpAny_bind (wpAny_mono (show wpAny (model prog w) A (letOwnedTupleGo target it v) (CT1 prog w A R target elt ifs acc env I n v) (FE prog w A env R) s₁ from h₁) (fun _ s₂ h₂ => ?_) fun _ _ h' => h')
    refine wpAny_bind (wpAny_mono (show wpAny (model prog w) A (assign target env v) (CT2 prog w A R elt ifs acc env I n) (FE prog w A env R) s₂ from h₂) (fun _ s₂ h₂ => wpAny_bind (wpAny_mono (show wpAny (model prog w) A (ifsT ifs env) (CT3 prog w A R elt acc env I n) (FE prog w A env R) s₂ from h₂) (fun ok s₃ h₃ => ?_) fun _ _ h' => h')) fun _ _ h' => h')
    cases ok with
    | false => exact wpAny_pure ⟨rfl, h₃⟩
    | true =>
      exact wpAny_bind (wpAny_bind (wpAny_mono h₃ (fun x s₄ h₄ => wpAny_bind (wpAny_mono h₄ (fun _ s₅ h₅ => wpAny_pure (wpAny_pure ⟨rfl, h₅⟩)) fun _ _ h' => h')) fun _ _ h' => h'))
end
end Mine
namespace Mine
open PySem PySem.Calls

theorem Tr.step {W F : Addr → Prop} {H₀ H₁ H₂ : HP} {h₀ h₁ h₂ : Heap} (x : Tr W H₀ h₀ H₁ h₁) (y : Tr F H₁ h₁ H₂ h₂) (hF : ∀ b, F b → W b ∨ h₀.get? b = none) (hW : ∀ b, W b → h₁.get? b = none → h₀.get? b = none) : Tr W H₀ h₀ H₂ h₂ :=
  let z : Tr (fun b => W b ∨ F b) H₀ h₀ H₂ h₂ := (x.wide fun _ q => .inl q).trans (y.wide fun _ q => .inr q) fun b q e => q.elim (fun q => hW b q e) fun q => (hF b q).elim (fun q => hW b q e) id
  ⟨fun b o hb e => z.ev b o (fun q => q.elim hb fun f => (hF b f).elim hb fun f => by rw [f] at e; cases e) e, z.grow⟩
theorem FW.apartFrom {B : GB} {H : HP} {env : Env} {l : Loc} {h : Heap} {soft : Bool} {fp : Addr → Prop} (F : FW B H env l h) (x : Shape soft fp h) : ∀ b, fp b → ¬ own env b := fun b hb ho => by
  rcases ho with rfl | ⟨fn, y, e⟩
  · obtain ⟨m, hn, _⟩ := F.ns; exact x.notNs hn hb
  · obtain ⟨⟨vo, hc⟩, _⟩ := F.cells fn y b e; exact x.notCell hc hb
theorem FW.keepBut {B : GB} {H : HP} {env : Env} {l : Loc} {h h' : Heap} {fp : Addr → Prop} (F : FW B H env l h) (x : Shape false fp h) (k : KeepBut fp h h') : FW B H env l h' := by
  obtain ⟨m, hn, _⟩ := F.ns
  exact F.trW (.keepBut k) (x.notNs hn) (fun _ _ _ _ q => x.notCell q) fun _ _ _ _ r => r.tr (.keepBut k) x.plain
theorem FW.keepButS {B : GB} {H : HP} {env : Env} {l : Loc} {h h' : Heap} {fp : Addr → Prop} {soft : Bool} (F : FW B H env l h) (x : Shape soft fp h) (k : KeepBut fp h h') (hl : ∀ x a, lk l x = some a → tf a = true) : FW B H env l h' := by
  obtain ⟨m, hn, _⟩ := F.ns
  exact F.trW (.keepBut k) (x.notNs hn) (fun _ _ _ _ q => x.notCell q) fun _ _ _ e r => r.trS (.keepBut k) x.softly (hl _ _ e)
theorem HR.keepButP {B : GB} {H : HP} {h h' : Heap} {fp : Addr → Prop} (hr : HR B H h) (x : Shape false fp h) (k : KeepBut fp h h') (hB : ∀ b, fp b → B.get? b = none) : HR B H h' :=
  hr.keepBut k hB (fun L m _ hn => x.notNs hn) (fun p _ vs n e => x.notList e) fun _ _ _ r => r.tr (.keepBut k) x.plain
theorem HR.keepButS {B : GB} {H : HP} {h h' : Heap} {fp : Addr → Prop} {soft : Bool} (hr : HR B H h) (x : Shape soft fp h) (k : KeepBut fp h h') (hB : ∀ b, fp b → B.get? b = none) (hl : ∀ p, p ∈ H → tfs p.2 = true) : HR B H h' :=
  hr.keepBut k hB (fun L m _ hn => x.notNs hn) (fun p _ vs n e => x.notList e) fun p hp _ r => r.trS (.keepBut k) x.softly (hl p hp)
theorem FW.ownLive {B : GB} {H : HP} {env : Env} {l : Loc} {h h₀ : Heap} (F : FW B H env l h) : ∀ b, own env b → h.get? b = none → h₀.get? b = none := fun b hb e => by
  obtain ⟨o, q⟩ := F.ownThere hb; rw [q] at e; cases e

section
variable {prog : Program} {w : World} {B : GB} {A : Around} {env : Env} {l : Loc} {H : HP} {P : AF → Loc → HP → Prop}
noncomputable abbrev ForPost (I : Nat → Loc → HP → Prop) (P : AF → Loc → HP → Prop) (i : Nat) (f : AF) (l₃ : Loc) (H₃ : HP) : Prop := match f with
  | .next | .cont => I (i + 1) l₃ H₃
  | .brk => P .next l₃ H₃
  | .ret a => P (.ret a) l₃ H₃
noncomputable abbrev ForSpec (prog : Program) (w : World) (B : GB) (A : Around) (env : Env) (target : Expr) (body orelse : List Stmt) (n : Nat) (l : Loc) (P : AF → Loc → HP → Prop) (seq : HP → Option (List AV)) (H₁ : HP) : Prop :=
  ∃ I : Nat → Loc → HP → Prop, I 0 l H₁ ∧ ∀ i l' H', I i l' H' → ∃ xs, seq H' = some xs ∧ xs.length = n ∧ i ≤ n ∧
      (∀ x, xs[i]? = some x → AS prog w B A env (assign target env) x l' H' fun l₂ H₂ => ST prog w B A env body l₂ H₂ (ForPost I P i)) ∧
      (i = n → ST prog w B A env orelse l' H' P)
noncomputable def ForI (B : GB) (env : Env) (s : Shared) (H : HP) (n : Nat) (I : Nat → Loc → HP → Prop) (St : Nat → HP → Heap → Prop) (k : Nat) (s' : Shared) : Prop :=
  ∃ i l' H' h' tk, k = n + 1 - i ∧ s' = { s with heap := h', toks := tk } ∧ I i l' H' ∧ St i H' h' ∧ HR B H' h' ∧ FW B H' env l' h' ∧ Tr (own env) H s.heap H' h'
theorem for_core {target : Expr} {body orelse : List Stmt} {n : Nat} {it : Value} {fp : Addr → Prop} {St : Nat → HP → Heap → Prop} {Mid : Nat → HP → Heap → Value → Prop} {seq : HP → Option (List AV)} {H₁ : HP} {h₁ : Heap} {tk₁ : Nat} {s : Shared}
    {I : Nat → Loc → HP → Prop} (hI : I 0 l H₁) (hstep : ∀ i l' H', I i l' H' → ∃ xs, seq H' = some xs ∧ xs.length = n ∧ i ≤ n ∧
      (∀ x, xs[i]? = some x → AS prog w B A env (assign target env) x l' H' fun l₂ H₂ => ST prog w B A env body l₂ H₂ (ForPost I P i)) ∧ (i = n → ST prog w B A env orelse l' H' P))
    (W : Wk prog w B A it target fp false seq St Mid) (st : St 0 H₁ h₁) (fresh : ∀ b, fp b → s.heap.get? b = none) (hB : ∀ b, fp b → B.get? b = none) (hr₁ : HR B H₁ h₁) (F₁ : FW B H₁ env l h₁) (t₁ : Tr nowhere H s.heap H₁ h₁)
    {R : Result → Shared → Prop} (hR : ∀ f s', SPost B env s H P f s' → R (.ok f) s') : codeAny (model prog w) A (.forLoop target it body orelse env) R { s with heap := h₁, toks := tk₁ } := by
  refine forLoop_go (ForI B env s H n I St) ?_ (n + 1) ⟨0, l, H₁, h₁, tk₁, rfl, rfl, hI, st, hr₁, F₁, t₁.up⟩
  rintro k s' ⟨i, l', H', h', tk, rfl, rfl, hI', st', hr', F', t'⟩
  obtain ⟨xs, hseq, hn, hin, hturn, hend⟩ := hstep i l' H' hI'
  have S' := W.shape _ _ _ st'
  cases hx : xs[i]? with
  | none =>
    have hi : i = n := by
      have := List.getElem?_eq_none_iff.mp hx; omega
    refine wpAny_mono (W.done i H' xs { s with heap := h', toks := tk } _ st' hr' hseq hx) (fun r s₃ q => ?_) fun _ _ e => e
    obtain ⟨h₃, tk₃, rfl, rfl, k₃⟩ := q
    have hr₃ := hr'.keepButP S' k₃ hB
    have F₃ := F'.keepBut S' k₃
    have t₃ := t'.step (.keepBut k₃) (fun b hb => .inr (fresh b hb)) F'.ownLive
    exact useS ((hend hi).run { s with heap := h₃, toks := tk₃ } _ hr₃ F₃) fun af f l₄ H₄ h₄ tk₄ p r hr₄ F₄ t₄ => hR _ _ ⟨_, _, _, _, _, rfl, p, r, hr₄, F₄, t₃.transW F₃ t₄⟩
  | some x =>
    have hlt : i < n := hn ▸ (List.getElem?_eq_some_iff.mp hx).1
    have hdec : n + 1 - (i + 1) < n + 1 - i := by clear hturn hend hseq; omega
    refine wpAny_mono (W.item i H' xs x { s with heap := h', toks := tk } _ st' hr' hseq hx) (fun r s₃ q => ?_) fun _ _ e => e
    obtain ⟨v, h₃, tk₃, rfl, rfl, rv, k₃, mid⟩ := q
    have hr₃ := hr'.keepButP S' k₃ hB
    have F₃ := F'.keepBut S' k₃
    have t₃ := t'.step (.keepBut k₃) (fun b hb => .inr (fresh b hb)) F'.ownLive
    refine wpAny_mono (W.go i H' { s with heap := h₃, toks := tk₃ } v _ mid) (fun _ s₄ q => ?_) fun _ _ e => e
    obtain ⟨h₄, tk₄, W', rfl, hW', S₃, k₄, st₄⟩ := q
    have hr₄ := hr₃.keepButP S₃ k₄ fun b hb => hB b (hW' b hb)
    have F₄ := F₃.keepBut S₃ k₄
    have rv₄ := rv.tr (.keepBut k₄) S₃.plain
    have t₄ := t₃.step (.keepBut k₄) (fun b hb => .inr (fresh b (hW' b hb))) F₃.ownLive
    refine useU ((hturn x hx).run { s with heap := h₄, toks := tk₄ } _ v hr₄ F₄ rv₄) fun l₅ H₅ h₅ tk₅ p₅ hr₅ F₅ t₅ => ?_
    have st₅ := W.keep _ _ _ _ _ _ st₄ t₅ F₄.ownPlain (F₄.apartFrom (W.shape _ _ _ st₄))
    have t₅' := t₄.transW F₄ t₅
    refine useS (p₅.run { s with heap := h₅, toks := tk₅ } _ hr₅ F₅) fun af f l₆ H₆ h₆ tk₆ p₆ r₆ hr₆ F₆ t₆ => ?_
    have st₆ := W.keep _ _ _ _ _ _ st₅ t₆ F₅.ownPlain (F₅.apartFrom (W.shape _ _ _ st₅))
    have t₆' := t₅'.transW F₅ t₆
    have go (p : I (i + 1) l₆ H₆) : ∃ m, m < n + 1 - i ∧ ForI B env s H n I St m { s with heap := h₆, toks := tk₆ } := ⟨n + 1 - (i + 1), hdec, i + 1, l₆, H₆, h₆, tk₆, rfl, rfl, p, st₆, hr₆, F₆, t₆'⟩
    cases af with
    | next => cases f <;> first | exact r₆.elim | exact go p₆
    | cont => cases f <;> first | exact r₆.elim | exact go p₆
    | brk => cases f <;> first | exact r₆.elim | exact hR _ _ ⟨.next, _, _, _, _, rfl, p₆, trivial, hr₆, F₆, t₆'⟩
    | ret a => cases f <;> first | exact r₆.elim | exact hR _ _ ⟨.ret a, _, _, _, _, rfl, p₆, r₆, hr₆, F₆, t₆'⟩
theorem sx_for {target iter : Expr} {body orelse : List Stmt} {pos : Pos} {n : Nat}
    (h : ITX prog w B A env l iter target false H (ForSpec prog w B A env target body orelse n l P))
    (hs : ∀ x, foldedSetIterable iter env x = pure x := by intro _; rfl) :
    SX prog w B A env (.For target iter body orelse pos) l H P := .mk fun s E hr F => by
  refine wpAny_For (wpAny_mono (h.run s E hr F.toFR) (fun x s₁ h₁ => wpAny_mono h₁ (fun it s₂ h₂ => ?_) fun _ _ e => e) fun _ _ e => e) hs
  obtain ⟨H₁, h₁, tk₁, fp, St, Mid, seq, rfl, ⟨I, hI, hstep⟩, W, st, fresh, hr₁, t₁⟩ := h₂
  have hB : ∀ b, fp b → B.get? b = none := fun b hb => by
    cases q : B.get? b with
    | none => rfl
    | some o => have := hr.keep b o q; rw [fresh b hb] at this; cases this
  exact for_core hI hstep W st fresh hB hr₁ (F.tr t₁) t₁ fun _ _ x => x

noncomputable abbrev WhilePost (J : Nat → Loc → HP → Prop) (P : AF → Loc → HP → Prop) (k : Nat) (f : AF) (l₃ : Loc) (H₃ : HP) : Prop := match f with
  | .next | .cont => ∃ k', k' < k ∧ J k' l₃ H₃
  | .brk => P .next l₃ H₃
  | .ret a => P (.ret a) l₃ H₃
noncomputable def WhileI (B : GB) (env : Env) (s : Shared) (H : HP) (J : Nat → Loc → HP → Prop) (k : Nat) (s' : Shared) : Prop :=
  ∃ l' H' h' tk, s' = { s with heap := h', toks := tk } ∧ J k l' H' ∧ HR B H' h' ∧ FW B H' env l' h' ∧ Tr (own env) H s.heap H' h'
theorem sx_while {test : Expr} {body : List Stmt} {pos : Pos} (J : Nat → Loc → HP → Prop) (n : Nat) (h0 : J n l H)
    (h : ∀ k l' H', J k l' H' → TX prog w B A env l' test H' fun b H₁ => if b = true then ST prog w B A env body l' H₁ (WhilePost J P k) else P .next l' H₁) :
    SX prog w B A env (.While test body [] pos) l H P := .mk fun s E hr F => by
  refine wpAny_While (codeAny_whileLoop (WhileI B env s H J)
    ?_ n ⟨l, H, s.heap, s.toks, rfl, h0, hr, F, .refl ..⟩)
  rintro k s' ⟨l', H', h', tk, rfl, hJ, hr', F', t'⟩
  refine useB ((h k l' H' hJ).run { s with heap := h', toks := tk } _ hr' F'.toFR) fun b H₁ h₁ tk₁ p hr₁ t₁ => ?_
  have F₁ := F'.tr t₁
  have t₁' := t'.transW F' t₁.up
  cases b with
  | false => exact wpAny_execs_nil ⟨.next, l', H₁, h₁, tk₁, rfl, p, trivial, hr₁, F₁, t₁'⟩
  | true =>
    refine useS ((ift p).run { s with heap := h₁, toks := tk₁ } _ hr₁ F₁) fun af f l₂ H₂ h₂ tk₂ p₂ r₂ hr₂ F₂ t₂ => ?_
    have t₂' := t₁'.transW F₁ t₂
    cases af with
    | next => cases f <;> first | exact r₂.elim | (obtain ⟨k', hk, hJ'⟩ := p₂; exact ⟨k', hk, l₂, H₂, h₂, tk₂, rfl, hJ', hr₂, F₂, t₂'⟩)
    | cont => cases f <;> first | exact r₂.elim | (obtain ⟨k', hk, hJ'⟩ := p₂; exact ⟨k', hk, l₂, H₂, h₂, tk₂, rfl, hJ', hr₂, F₂, t₂'⟩)
    | brk => cases f <;> first | exact r₂.elim | exact ⟨.next, _, _, _, _, rfl, p₂, trivial, hr₂, F₂, t₂'⟩
    | ret a => cases f <;> first | exact r₂.elim | exact ⟨.ret a, _, _, _, _, rfl, p₂, r₂, hr₂, F₂, t₂'⟩
end

structure TS (prog : Program) (w : World) (B : GB) (A : Around) (env : Env) (l : Loc) (ifs : List Expr) (H : HP) (P : Bool → HP → Prop) : Prop where
  run : ∀ (s : Shared) (E : Value → Shared → Prop), HR B H s.heap → FR H env l s.heap →
      wpAny (model prog w) A (forIn ifs true fun c r => if r = true then do let ok ← isTrue c env (eval c env); pure (ForInStep.yield ok) else pure (ForInStep.yield r)) (PostB B s H P) E s
section
variable {prog : Program} {w : World} {B : GB} {A : Around} {env : Env} {l : Loc} {H : HP}
theorem ts_nil {P : Bool → HP → Prop} (p : P true H) : TS prog w B A env l [] H P := .mk fun s E hr F => wpAny_pure (.here p hr)
theorem ts_one {P : Bool → HP → Prop} {c : Expr} (h : TX prog w B A env l c H P) : TS prog w B A env l [c] H P := .mk fun s E hr F => by
  simp only [List.forIn_cons, List.forIn_nil, if_true]
  refine wpAny_bind (wpAny_bind (useB (h.run s E hr F) fun b H₁ h₁ tk₁ p hr₁ t₁ => wpAny_pure (wpAny_pure ⟨H₁, h₁, tk₁, rfl, p, hr₁, t₁⟩)))

noncomputable def CellsOK (env : Env) (l : Loc) (cl : List (Str × Addr)) (kc : Str → Option NameKind) : Loc → Prop
  | [] => True
  | p :: r => (lk l p.1 = some p.2 ∧ env.kindOf p.1 = some .cell ∧ cl.lookup p.1 = env.cells.lookup p.1 ∧ kc p.1 = some .cell) ∧ CellsOK env l cl kc r
theorem CellsOK.of {cl : List (Str × Addr)} {kc : Str → Option NameKind} : ∀ {l₀ : Loc}, CellsOK env l cl kc l₀ → ∀ {x a}, lk l₀ x = some a → lk l x = some a ∧ env.kindOf x = some .cell ∧ cl.lookup x = env.cells.lookup x ∧ kc x = some .cell
  | [], _, x, a, e => nomatch e
  | p :: r, h, x, a, e => by
    unfold lk at e
    by_cases q : x = p.1
    · subst q; simp only [if_true] at e; cases e; exact h.1
    · rw [if_neg q] at e; exact h.2.of e
noncomputable def Sub (l l' : Loc) : Prop := ∀ x a, lk l x = some a → lk l' x = some a
theorem Sub.refl (l : Loc) : Sub l l := fun _ _ e => e
theorem Sub.put {l l' : Loc} {x : Str} {a : AV} (h : Sub l l') (hx : lk l x = none) : Sub l (put l' x a) := fun y b e => by
  rw [lk_put, if_neg (fun q => by rw [q, hx] at e; cases e)]; exact h y b e

theorem HR.forget {B : GB} {H₁ H₂ : HP} {a : Addr} {xs : List AV} {h : Heap} (hr : HR B (H₁ ++ (a, xs) :: H₂) h) : HR B (H₁ ++ H₂) h ∧ Tr nowhere (H₁ ++ (a, xs) :: H₂) h (H₁ ++ H₂) h ∧ VR (H₁ ++ H₂) h (.lst xs) (.ref a) := by
  have hk : ∀ b, b ∈ keys (H₁ ++ H₂) → b ∈ keys (H₁ ++ (a, xs) :: H₂) := fun b hb => by
    simp only [keys, List.map_append, List.map_cons, List.mem_append, List.mem_cons] at hb ⊢
    rcases hb with q | q
    · exact .inl q
    · exact .inr (.inr q)
  have t : Tr nowhere (H₁ ++ (a, xs) :: H₂) h (H₁ ++ H₂) h := ⟨fun b o _ e => .inl (.inl e), fun b hb => .inl (hk b hb)⟩
  have nd := hr.nodup
  simp only [keys, List.map_append, List.map_cons] at nd
  refine ⟨⟨hr.keep, fun p hp => ?_, fun b hb => hr.new b (hk b hb), ?_, hr.alive⟩, t, ?_⟩
  · obtain ⟨vs, n, e, r⟩ := hr.list p (by
      rcases List.mem_append.mp hp with q | q
      · exact List.mem_append.mpr (.inl q)
      · exact List.mem_append.mpr (.inr (.tail _ q)))
    exact ⟨vs, n, e, r.tr' t⟩
  · simp only [keys, List.map_append]
    exact nd.sublist (List.Sublist.append (List.Sublist.refl _) (List.sublist_cons_self ..))
  · obtain ⟨vs, n, e, r⟩ := hr.list (a, xs) (by simp)
    refine .lst (fun hm => ?_) e (r.tr' t)
    simp only [keys, List.map_append, List.mem_append] at hm
    rcases hm with q | q
    · exact (List.nodup_append.mp nd).2.2 a q a (by simp) rfl
    · exact (List.nodup_cons.mp (List.nodup_append.mp nd).2.1).1 q
end
end Mine
namespace Mine
open PySem PySem.Calls

section
variable {prog : Program} {w : World} {B : GB} {A : Around} {env : Env} {l : Loc} {H : HP} {P : AV → HP → Prop}
noncomputable def Turn (prog : Program) (w : World) (B : GB) (A : Around) (env : Env) (scope : Scope) (cl : List (Str × Addr)) (target : Expr) (ifs : List Expr) (elt : Expr) (l₀ : Loc) (H₁ : HP) (xs : List AV) (p : AV → Bool) (f : AV → AV) (x : AV) : Prop :=
  ∀ C D acc, (∃ n, acc = ((xs.take n).filter p).map f) → AS prog w B A (compEnvC scope cl C env) (assign target (compEnvC scope cl C env)) x l₀ ((D, acc) :: H₁) fun l₂ H₂ => H₂ = (D, acc) :: H₁ ∧ Sub l₀ l₂ ∧
    TS prog w B A (compEnvC scope cl C env) l₂ ifs ((D, acc) :: H₁) fun ok H₃ => H₃ = (D, acc) :: H₁ ∧ ok = p x ∧
      (ok = true → EX prog w B A (compEnvC scope cl C env) l₂ elt ((D, acc) :: H₁) fun z H₄ => H₄ = (D, acc) :: H₁ ∧ z = f x)

theorem take_succ_of {α : Type} {xs : List α} {i : Nat} {x : α} (h : xs[i]? = some x) : xs.take (i + 1) = xs.take i ++ [x] := by
  rw [List.take_add_one, h]; rfl

noncomputable abbrev CompSpec (prog : Program) (w : World) (B : GB) (A : Around) (env : Env) (scope : Scope) (cl : List (Str × Addr)) (target : Expr) (ifs : List Expr) (elt : Expr) (l₀ : Loc) (soft : Bool) (p : AV → Bool) (f : AV → AV) (P : AV → HP → Prop) (seq : HP → Option (List AV)) (H₁ : HP) : Prop :=
  ∃ xs, (∀ D acc, seq ((D, acc) :: H₁) = some xs) ∧ xs.length ≤ 1000 ∧
      (soft = true → (∀ q ∈ H₁, tfs q.2 = true) ∧ (∀ x a, lk l₀ x = some a → tf a = true) ∧ ∀ x ∈ xs, tf (f x) = true) ∧
      (∀ x ∈ xs, Turn prog w B A env scope cl target ifs elt l₀ H₁ xs p f x) ∧ P (.lst ((xs.filter p).map f)) H₁
noncomputable abbrev accAt (xs : List AV) (p : AV → Bool) (f : AV → AV) (i : Nat) : List AV := ((xs.take i).filter p).map f
noncomputable def CompI (B : GB) (cenv : Env) (l₀ : Loc) (s : Shared) (H : HP) (xs : List AV) (p : AV → Bool) (f : AV → AV) (D : Addr) (H₁ : HP) (St : Nat → HP → Heap → Prop) (k : Nat) (s' : Shared) : Prop :=
  ∃ i h' tk, k = xs.length + 1 - i ∧ i ≤ xs.length ∧ s' = { s with heap := h', toks := tk } ∧ St i ((D, accAt xs p f i) :: H₁) h' ∧ HR B ((D, accAt xs p f i) :: H₁) h' ∧ FW B ((D, accAt xs p f i) :: H₁) cenv l₀ h' ∧ Tr nowhere H s.heap ((D, accAt xs p f i) :: H₁) h'
theorem tfs_map {f : AV → AV} : ∀ ys : List AV, (∀ y ∈ ys, tf (f y) = true) → tfs (ys.map f) = true
  | [], _ => rfl
  | y :: ys, h => by simp only [List.map_cons, tfs, Bool.and_eq_true]; exact ⟨h y (.head _), tfs_map ys fun z hz => h z (.tail _ hz)⟩
theorem acc_step {xs : List AV} {p : AV → Bool} {f : AV → AV} {i : Nat} {x : AV} (hx : xs[i]? = some x) : accAt xs p f (i + 1) = accAt xs p f i ++ if p x = true then [f x] else [] := by
  rw [accAt, take_succ_of hx, List.filter_append, List.map_append]
  by_cases q : p x = true <;> simp [q]
theorem comp_loop {elt target iter : Expr} {ifs : List Expr} {scope : Scope} {pos : Pos} {cl : List (Str × Addr)} {l₀ : Loc} {soft : Bool} {p : AV → Bool} {f : AV → AV} {s : Shared} {it : Value} {fp : Addr → Prop} {St : Nat → HP → Heap → Prop}
    {Mid : Nat → HP → Heap → Value → Prop} {seq : HP → Option (List AV)} {H₁ : HP} {xs : List AV} {D : Addr} {h₂ : Heap} {tk₁ : Nat} (hseq : ∀ D acc, seq ((D, acc) :: H₁) = some xs) (hlen : xs.length ≤ 1000)
    (hsoft : soft = true → (∀ q ∈ H₁, tfs q.2 = true) ∧ (∀ x a, lk l₀ x = some a → tf a = true) ∧ ∀ x ∈ xs, tf (f x) = true)
    (hturn : ∀ x ∈ xs, Turn prog w B A env scope cl target ifs elt l₀ H₁ xs p f x) (W : Wk prog w B A it target fp soft seq St Mid) (fresh : ∀ b, fp b → s.heap.get? b = none) (hB : ∀ b, fp b → B.get? b = none)
    (newS : s.heap.get? (D + 1) = none) (st₂ : St 0 ((D, []) :: H₁) h₂) (hr₂ : HR B ((D, []) :: H₁) h₂) (F₂ : FW B ((D, []) :: H₁) (compEnvC scope cl (D + 1) env) l₀ h₂) (t₂ : Tr nowhere H s.heap ((D, []) :: H₁) h₂)
    {R : Result → Shared → Prop} (hR : ∀ h' tk m, h'.Ns (D + 1) m → HR B ((D, (xs.filter p).map f) :: H₁) h' → Tr nowhere H s.heap ((D, (xs.filter p).map f) :: H₁) h' → R (.ok .next) { s with heap := h', toks := tk }) :
    codeAny (model prog w) A (.compLoop (.ListComp elt [⟨target, iter, ifs, 0⟩] scope pos) 0 it (.ref D) (compEnvC scope cl (D + 1) env)) R { s with heap := h₂, toks := tk₁ } := by
  refine compLoop_go (CompI B (compEnvC scope cl (D + 1) env) l₀ s H xs p f D H₁ St) ?_ (xs.length + 1) ⟨0, h₂, tk₁, rfl, Nat.zero_le _, rfl, st₂, hr₂, F₂, t₂⟩
  rintro k s' ⟨i, h', tk, rfl, hi, rfl, st', hr', F', t'⟩
  have S' := W.shape _ _ _ st'
  have ownF : ∀ b, own (compEnvC scope cl (D + 1) env) b → False ∨ s.heap.get? b = none := fun b hb => .inr (by
    rcases hb with rfl | ⟨q, _⟩
    · exact newS
    · cases q)
  have step : ∀ {h₃ : Heap}, KeepBut fp h' h₃ → HR B ((D, accAt xs p f i) :: H₁) h₃ ∧ FW B ((D, accAt xs p f i) :: H₁) (compEnvC scope cl (D + 1) env) l₀ h₃ ∧ Tr nowhere H s.heap ((D, accAt xs p f i) :: H₁) h₃ := fun k₃ => by
    have t₃ := t'.step (.keepBut k₃) (fun b hb => .inr (fresh b hb)) (fun b q => q.elim)
    cases soft with
    | false => exact ⟨hr'.keepButP S' k₃ hB, F'.keepBut S' k₃, t₃⟩
    | true =>
      obtain ⟨a, b, c⟩ := hsoft rfl
      exact ⟨hr'.keepButS S' k₃ hB (List.forall_mem_cons.mpr ⟨tfs_map _ fun y hy => c y (List.mem_of_mem_take (List.mem_filter.mp hy).1), a⟩), F'.keepButS S' k₃ b, t₃⟩
  cases hx : xs[i]? with
  | none =>
    have hin : xs.length ≤ i := List.getElem?_eq_none_iff.mp hx
    refine wpAny_mono (W.done i _ xs { s with heap := h', toks := tk } _ st' hr' (hseq D _) hx) (fun r s₃ q => ?_) fun _ _ e => e
    obtain ⟨h₃, tk₃, rfl, rfl, k₃⟩ := q
    obtain ⟨hr₃, F₃, t₃⟩ := step k₃
    obtain ⟨m, hn₃, _⟩ := F₃.ns
    have e : accAt xs p f i = (xs.filter p).map f := by rw [accAt, List.take_of_length_le hin]
    exact hR h₃ tk₃ m hn₃ (e ▸ hr₃) (e ▸ t₃)
  | some x =>
    have hlt : i < xs.length := (List.getElem?_eq_some_iff.mp hx).1
    have hdec : xs.length + 1 - (i + 1) < xs.length + 1 - i := Nat.sub_lt_sub_left (Nat.lt_succ_of_lt hlt) (Nat.lt_succ_self i)
    have hmem : x ∈ xs := List.mem_of_getElem? hx
    refine wpAny_mono (W.item i _ xs x { s with heap := h', toks := tk } _ st' hr' (hseq D _) hx) (fun r s₃ q => ?_) fun _ _ e => e
    obtain ⟨v, h₃, tk₃, rfl, rfl, rv, k₃, mid⟩ := q
    obtain ⟨hr₃, F₃, t₃⟩ := step k₃
    refine wpAny_mono (W.go i _ { s with heap := h₃, toks := tk₃ } v _ mid) (fun _ s₄ q => ?_) fun _ _ e => e
    obtain ⟨h₄, tk₄, W', rfl, hW', S₃, k₄, st₄⟩ := q
    have hr₄ := hr₃.keepButP S₃ k₄ fun b hb => hB b (hW' b hb)
    have F₄ := F₃.keepBut S₃ k₄
    have rv₄ := rv.tr (.keepBut k₄) S₃.plain
    have t₄ := t₃.step (.keepBut k₄) (fun b hb => .inr (fresh b (hW' b hb))) (fun b q => q.elim)
    refine useU ((hturn x hmem (D + 1) D _ ⟨i, rfl⟩).run { s with heap := h₄, toks := tk₄ } _ v hr₄ F₄ rv₄) fun l₅ H₅ h₅ tk₅ p₅ hr₅ F₅ t₅ => ?_
    obtain ⟨rfl, hsub, p₅⟩ := p₅
    have st₅ := W.keep _ _ _ _ _ _ st₄ t₅ F₄.ownPlain (F₄.apartFrom (W.shape _ _ _ st₄))
    have t₅' := t₄.step t₅ ownF (fun b q => q.elim)
    refine useB (p₅.run { s with heap := h₅, toks := tk₅ } _ hr₅ F₅.toFR) fun ok H₆ h₆ tk₆ p₆ hr₆ t₆ => ?_
    obtain ⟨rfl, rfl, p₆⟩ := p₆
    have F₆ := F₅.tr t₆
    have st₆ := W.keep _ _ _ _ _ _ st₅ t₆ (fun _ _ q => q.elim) (fun _ _ q => q)
    have t₆' := t₅'.trans' t₆
    have hacc' := acc_step (p := p) (f := f) hx
    have go {h₇ : Heap} {tk₇ : Nat} {acc : List AV} (e : accAt xs p f (i + 1) = acc) (st₇ : St (i + 1) ((D, acc) :: H₁) h₇) (hr₇ : HR B ((D, acc) :: H₁) h₇) (F₇ : FW B ((D, acc) :: H₁) (compEnvC scope cl (D + 1) env) l₀ h₇) (t₇ : Tr nowhere H s.heap ((D, acc) :: H₁) h₇) :
        ∃ m, m < xs.length + 1 - i ∧ CompI B (compEnvC scope cl (D + 1) env) l₀ s H xs p f D H₁ St m { s with heap := h₇, toks := tk₇ } := by
      subst e
      exact ⟨_, hdec, i + 1, h₇, tk₇, rfl, hlt, rfl, st₇, hr₇, F₇, t₇⟩
    cases hp : p x with
    | false =>
      rw [hp, if_neg (by decide), List.append_nil] at hacc'
      rw [CT3, if_neg (by decide)]
      exact go hacc' st₆ hr₆ (F₆.less hsub) t₆'
    | true =>
      rw [hp, if_pos rfl] at hacc'
      rw [CT3, if_pos rfl]
      refine use ((p₆ hp).run { s with heap := h₆, toks := tk₆ } _ hr₆ F₆.toFR) fun y v₇ H₇ h₇ tk₇ p₇ r₇ hr₇ t₇ => ?_
      obtain ⟨rfl, rfl⟩ := p₇
      have F₇ := F₆.tr t₇
      have st₇ := W.keep _ _ _ _ _ _ st₆ t₇ (fun _ _ q => q.elim) (fun _ _ q => q)
      have hsz : (accAt xs p f i).length ≤ 1000 := by
        rw [accAt, List.length_map]
        exact Nat.le_trans (List.length_filter_le ..) (Nat.le_trans (List.length_take_le' ..) hlen)
      refine use ((op_append (H₁ := []) (H₂ := H₁) (a := D) (xs := accAt xs p f i) (x := f x) (P := fun a H' => H' = (D, accAt xs p f i ++ [f x]) :: H₁) hsz rfl).run { s with heap := h₇, toks := tk₇ } _ [.ref D, v₇] hr₇ (.cons (.list D) (.cons r₇ .nil))) fun a₈ v₈ H₈ h₈ tk₈ p₈ r₈ hr₈ t₈ => ?_
      subst p₈
      exact go hacc' (W.keep _ _ _ _ _ _ st₇ t₈ (fun _ _ q => q.elim) (fun _ _ q => q)) hr₈ ((F₇.tr t₈).less hsub) ((t₆'.trans' t₇).trans' t₈)

theorem comp_core {elt target iter : Expr} {ifs : List Expr} {scope : Scope} {pos : Pos} {cl : List (Str × Addr)} {l₀ : Loc} {soft : Bool} {p : AV → Bool} {f : AV → AV}
    (hcell : ∀ y ∈ scope.names, y.2 ≠ .cell) (hkind : scope.kind = .function)
    (hl₀ : CellsOK env l cl (compEnvC scope cl 0 env).kindOf l₀)
    (h : ITX prog w B A env l iter target soft H (CompSpec prog w B A env scope cl target ifs elt l₀ soft p f P))
    {s : Shared} {E : Value → Shared → Prop} (hr : HR B H s.heap) (F : FR H env l s.heap) {RR : Value → Addr → Result → Shared → Prop}
    (hRR : ∀ D h' tk m acc H₁, s.heap.get? D = none → s.heap.get? (D + 1) = none → B.get? (D + 1) = none → h'.Ns (D + 1) m → HR B ((D, acc) :: H₁) h' → Tr nowhere H s.heap ((D, acc) :: H₁) h' → P (.lst acc) H₁ → RR (.ref D) (D + 1) (.ok .next) { s with heap := h', toks := tk }) :
    wpAny (model prog w) A (eval iter env) (fun x s₁ => wpAny (model prog w) A (pyIter x) (fun it s₂ => wpAny (model prog w) A (newList []) (fun acc s₃ =>
      wpAny (model prog w) A (newFunctionEnv scope env.globals cl [] env.qual none .none (some env)) (fun cenv s₄ =>
        codeAny (model prog w) A (.compStart (.ListComp elt [⟨target, iter, ifs, 0⟩] scope pos) 0 it acc { cenv with scope := relabel scope env }) (RR acc cenv.locals) s₄) E s₃) E s₂) E s₁) E s := by
  refine wpAny_mono (h.run s E hr F) (fun x s₁ h₁ => wpAny_mono h₁ (fun it s₂ h₂ => ?_) fun _ _ e => e) fun _ _ e => e
  obtain ⟨H₁, h₁, tk₁, fp, St, Mid, seq, rfl, ⟨xs, hseq, hlen, hsoft, hturn, hP⟩, W, st, fresh, hr₁, t₁⟩ := h₂
  refine wpAny_newObj_type (wpAny_newFunctionEnv hcell (by intro y hy; simp at hy) (fun h₂ hns₂ hsb₂ => ?_) hkind)
  dsimp only at hns₂ hsb₂ ⊢
  generalize hD : h₁.objs.size = D at hns₂ hsb₂ ⊢
  have eH2 : (h₁.push { cls := .type "list", dict := none, data := .seq ([] : List Value).toArray }) = h₁.push (lob #[] 0) := rfl
  rw [eH2] at hns₂ hsb₂ ⊢
  have hCs : (h₁.push (lob #[] 0)).objs.size = D + 1 := by rw [Heap.size_push, hD]
  rw [hCs] at hns₂ hsb₂ ⊢
  have hr₂' := hr₁.pushNew (vs := #[]) (as := []) .nil
  rw [hD] at hr₂'
  have tp : Tr nowhere H₁ h₁ ((D, []) :: H₁) (h₁.push (lob #[] 0)) := by rw [← hD]; exact .pushNew
  have k₂ : ∀ b o, (h₁.push (lob #[] 0)).get? b = some o → h₂.get? b = some o := fun b o e => hsb₂.2 b (fun q => by
    have := Heap.lt_size e; rw [hCs, q] at this; exact Nat.lt_irrefl _ this) |>.trans (Heap.get?_push_of_some _ e)
  have hr₂ := hr₂'.keeps k₂
  have t₂ : Tr nowhere H s.heap ((D, []) :: H₁) h₂ := (t₁.trans' tp).trans' (.keeps k₂)
  have hB : ∀ b, fp b → B.get? b = none := fun b hb => by
    cases q : B.get? b with
    | none => rfl
    | some o => have := hr.keep b o q; rw [fresh b hb] at this; cases this
  have new : ∀ b, D ≤ b → h₁.get? b = none := fun b hb => by
    cases q : h₁.get? b with
    | none => rfl
    | some o => have := Heap.lt_size q; rw [hD] at this; exact absurd this (Nat.not_lt.mpr hb)
  have newS : ∀ b, D ≤ b → s.heap.get? b = none := fun b hb => t₁.none_of id (new b hb)
  have newB : ∀ b, D ≤ b → B.get? b = none := fun b hb => by
    cases q : B.get? b with
    | none => rfl
    | some o => have := hr.keep b o q; rw [newS b hb] at this; cases this
  have F₂ : FW B ((D, []) :: H₁) (compEnvC scope cl (D + 1) env) l₀ h₂ := by
    refine ⟨⟨hkind, F.glob, F.blt, ⟨_, hns₂, fun x a e k => ?_⟩, fun x a e k => ?_⟩, newB _ (Nat.le_succ _), fun q => (nomatch q), fun q => (nomatch q), fun q => (nomatch q)⟩
    · have := (hl₀.of e).2.2.2
      have k' : (compEnvC scope cl 0 env).kindOf x = some .local := k
      rw [k'] at this; cases this
    · obtain ⟨e', k', c', _⟩ := hl₀.of e
      obtain ⟨c, v, ec, hc, r⟩ := F.cell x a e' k'
      exact ⟨c, v, c'.trans ec, t₂.isCell id hc, r.tr' t₂⟩
  have st₂ : St 0 ((D, []) :: H₁) h₂ := W.keep _ _ _ _ _ _ st (tp.trans' (.keeps k₂)) (fun _ _ q => q.elim) (fun _ _ q => q)
  have loop := comp_loop (elt := elt) (iter := iter) (scope := scope) (pos := pos) (tk₁ := tk₁) hseq hlen hsoft hturn W fresh hB (newS _ (Nat.le_succ _)) st₂ hr₂ F₂ t₂ fun h' tk m a b c => hRR D h' tk m _ H₁ (newS _ (Nat.le_refl _)) (newS _ (Nat.le_succ _)) (newB _ (Nat.le_succ _)) a b c hP
  exact codeAny_compStart_list loop (W.self 0 _ _ _ _ st₂ loop)
theorem ex_comp {elt target iter : Expr} {ifs : List Expr} {scope : Scope} {pos : Pos} {cl : List (Str × Addr)} {l₀ : Loc} {soft : Bool} {p : AV → Bool} {f : AV → AV}
    (hclos : closureFor scope env = pure cl) (hcell : ∀ y ∈ scope.names, y.2 ≠ .cell) (hkind : scope.kind = .function)
    (hnames : ∀ y ∈ scope.names, y.2 = .local → scope.names.lookup y.1 = some .local) (hl₀ : CellsOK env l cl (compEnvC scope cl 0 env).kindOf l₀)
    (h : ITX prog w B A env l iter target soft H (CompSpec prog w B A env scope cl target ifs elt l₀ soft p f P))
    (hs : ∀ x, foldedSetIterable iter env x = pure x := by intro _; rfl) :
    EX prog w B A env l (.ListComp elt [⟨target, iter, ifs, 0⟩] scope pos) H P := .mk fun s E hr F => by
  rw [eval_ListComp]
  refine wpAny_comprehension_free (use := none) rfl hs hclos hkind hnames (comp_core (RR := fun acc C => compPost (model prog w) A E none (Post B s H P) acc C) hcell hkind hl₀ h hr F ?_)
  intro D h₃ tk₃ m acc H₁ hD hC hCB hn₃ hr₃ t₃ hP
  refine ⟨m, hn₃, fun h₄ hs₄ => ?_⟩
  have kb : KeepBut (fun b => b = D + 1) h₃ h₄ := fun b o hb e => (hs₄.2 b hb).trans e
  have pl : Plain (fun b => b = D + 1) h₃ := fun b o hb e => by subst hb; exact ns_not_list hn₃ e
  have hr₄ : HR B ((D, acc) :: H₁) h₄ := hr₃.keepBut kb (fun b hb => by subst hb; exact hCB) (fun L m hL _ hb => by
    have hb : L = D + 1 := hb
    subst hb
    obtain ⟨m', o, es, ep, ho, _⟩ := hr.alive _ hL
    rw [hC] at ho; cases ho) (fun q hq vs n e hb => (pl _ _ hb e).1 vs n rfl) fun _ _ _ r => r.tr (.keepBut kb) pl
  have t₄ : Tr nowhere H s.heap ((D, acc) :: H₁) h₄ := t₃.step (.keepBut kb) (fun b hb => .inr (by subst hb; exact hC)) (fun b q => q.elim)
  obtain ⟨hr₅, t₅, r₅⟩ := HR.forget (H₁ := []) hr₄
  exact ⟨.lst acc, H₁, h₄, tk₃, rfl, hP, r₅, hr₅, t₄.trans' t₅⟩
end
section
variable {prog : Program} {w : World} {B : GB} {A : Around} {env : Env} {l : Loc} {H : HP} {P : AF → Loc → HP → Prop}
theorem sx_assignComp {y : Str} {py spos : Pos} {elt target iter : Expr} {ifs : List Expr} {scope : Scope} {pos : Pos} {cl : List (Str × Addr)} {l₀ : Loc} {soft : Bool} {p : AV → Bool} {f : AV → AV}
    (hclos : closureFor scope env = pure cl) (hcell : ∀ y ∈ scope.names, y.2 ≠ .cell) (hkind : scope.kind = .function)
    (hnames : ∀ y ∈ scope.names, y.2 = .local → scope.names.lookup y.1 = some .local) (hl₀ : CellsOK env l cl (compEnvC scope cl 0 env).kindOf l₀)
    (hy : env.kindOf y = some .local)
    (h : ITX prog w B A env l iter target soft H (CompSpec prog w B A env scope cl target ifs elt l₀ soft p f fun a H₁ => P .next (put l y a) H₁))
    (hsw : swapsWith (.ListComp elt [⟨target, iter, ifs, 0⟩] scope pos) (some (.Name y py)) spos.line env = pure true := by rfl)
    (hs : ∀ x, foldedSetIterable iter env x = pure x := by intro _; rfl) :
    SX prog w B A env (.Assign [.Name y py] (.ListComp elt [⟨target, iter, ifs, 0⟩] scope pos) spos) l H P := .mk fun s E hr F => by
  rw [exec_Assign_Name_used _ _ _ _ hsw]
  refine wpAny_bind (wpAny_standAt (wpAny_bind ?_))
  show wpAny _ A (do let _ ← comprehension (.ListComp elt [⟨target, iter, ifs, 0⟩] scope pos) scope env _ (newList []) false (eval iter env) (some (assign (.Name y py) env))) _ _ s
  refine wpAny_bind (wpAny_mono (wpAny_comprehension_free (use := some (assign (.Name y py) env)) (Q := fun _ s' => SPost B env s H P .next s') rfl hs hclos hkind hnames
    (comp_core (P := fun a H₁ => P .next (put l y a) H₁) (RR := fun acc C => compPost (model prog w) A E (some (assign (.Name y py) env)) (fun _ s' => SPost B env s H P .next s') acc C) hcell hkind hl₀ h hr F.toFR ?_)) (fun _ s' hq => wpAny_pure (wpAny_pure hq)) fun _ _ e => e)
  intro D h₃ tk₃ m acc H₁ hD hC hCB hn₃ hr₃ t₃ hP
  obtain ⟨hr₄, t₄, r₄⟩ := HR.forget (H₁ := []) hr₃
  have t₄' := t₃.trans' t₄
  have F₄ := F.tr t₄'
  show wpAny _ A (assign (.Name y py) env (.ref D)) _ _ _
  refine useU ((as_name (as_local hy (P := fun l' H' => P .next l' H') hP)).run { s with heap := h₃, toks := tk₃ } _ (.ref D) hr₄ F₄ r₄) fun l₅ H₅ h₅ tk₅ p₅ hr₅ F₅ t₅ => ?_
  have nC : ¬ own env (D + 1) := fun hb => by obtain ⟨o, q⟩ := F.ownThere hb; rw [hC] at q; cases q
  have hn₅ : h₅.Ns (D + 1) m := t₅.ns nC hn₃
  refine ⟨m, hn₅, fun h₆ hs₆ => ?_⟩
  have kb : KeepBut (fun b => b = D + 1) h₅ h₆ := fun b o hb e => (hs₆.2 b hb).trans e
  have pl : Plain (fun b => b = D + 1) h₅ := fun b o hb e => by subst hb; exact ns_not_list hn₅ e
  have hr₆ : HR B H₅ h₆ := hr₅.keepBut kb (fun b hb => by subst hb; exact hCB) (fun L m hL _ hb => by
    have hb : L = D + 1 := hb
    subst hb
    obtain ⟨m', o, es, ep, ho, _⟩ := hr.alive _ hL
    rw [hC] at ho; cases ho) (fun q hq vs n e hb => (pl _ _ hb e).1 vs n rfl) fun _ _ _ r => r.tr (.keepBut kb) pl
  have F₆ : FW B H₅ env l₅ h₆ := F₅.trW (.keepBut kb) (fun q => nC (.inl q.symm)) (fun x c vo e hc q => by
    subst q
    obtain ⟨o, es, ep, ho, hd, _⟩ := hn₅
    obtain ⟨o', ho', hd'⟩ := hc
    rw [ho] at ho'; cases ho'; rw [hd] at hd'; cases hd') fun _ _ _ _ r => r.tr (.keepBut kb) pl
  refine ⟨.next, l₅, H₅, h₆, tk₅, rfl, p₅, trivial, hr₆, F₆, ?_⟩
  exact (t₄'.up.transW F₄ t₅).step (.keepBut kb) (fun b hb => .inr (by subst hb; exact hC)) F₅.ownLive
end
end Mine
namespace Mine
open PySem PySem.Calls

noncomputable abbrev signs (x : Str) : List AV := x.cps.toList.map fun c => .str ⟨#[c]⟩
noncomputable def seqOf : AV → HP → Option (List AV)
  | .lst xs, _ => some xs
  | .tup xs, _ => some xs
  | .list a, H => H.lookup a
  | .str x, _ => some (signs x)
  | _, _ => none
theorem lookup_mem : ∀ {H : HP} {a : Addr} {xs : List AV}, H.lookup a = some xs → (a, xs) ∈ H
  | [], _, _, h => nomatch h
  | (b, ys) :: H, a, xs, h => by
    rw [List.lookup_cons] at h
    cases q : a == b with
    | true => rw [q] at h; cases h; rw [beq_iff_eq.mp q]; exact List.mem_cons_self ..
    | false => rw [q] at h; exact .tail _ (lookup_mem h)
noncomputable abbrev atI (I : Addr) : Addr → Prop := fun b => b = I
theorem shape_one {soft : Bool} {I : Addr} {h : Heap} {o : Obj} {fs : Array Value} (e : h.get? I = some o) (d : o.data = .fields fs) (hf : ∀ id v, fs ≠ #[.builtin id, v] := by intro id v h; simp [rawInt] at h) : Shape soft (atI I) h := fun b o' hb e' => by
  rw [show b = I from hb, e] at e'; cases e'; exact .inl ⟨fs, d, hf⟩
theorem Tr.fields {W : Addr → Prop} {H H' : HP} {h h' : Heap} (x : Tr W H h H' h') {I : Addr} {o : Obj} {fs : Array Value} (hI : ¬ W I) (e : h.get? I = some o) (d : o.data = .fields fs) (hc : o.cls ≠ .type "frame") : h'.get? I = some o :=
  (x.other hI e (fun vs n q => by rw [q] at d; cases d)).exact (by intro es ep q; rw [q] at d; cases d)
theorem sameBut_keep {I : Addr} {h h' : Heap} (hs : Heap.SameBut I h h') : KeepBut (atI I) h h' := fun b o hb e => (hs.2 b hb).trans e
theorem extBut_keep {I : Addr} {h h' : Heap} (hs : Heap.ExtBut I h h') : KeepBut (atI I) h h' := fun b o hb e => hs b o hb e
theorem isList_of {h : Heap} {a : Addr} {vs : Array Value} {n : Nat} (e : h.get? a = some (lob vs n)) : h.IsList a vs := ⟨_, e, rfl, n, rfl⟩
theorem isTuple_of {h : Heap} {a : Addr} {vs : Array Value} {n : Nat} (e : h.get? a = some (tob vs n)) : h.IsTuple a vs := ⟨_, e, rfl, n, rfl⟩

section
variable {prog : Program} {w : World} {B : GB} {A : Around} {H : HP}
noncomputable def isL : AV → Bool
  | .lst _ | .list _ => true
  | _ => false
theorem listAt {h : Heap} {av : AV} {v : Value} {xs : List AV} (hl : isL av = true) (r : VR H h av v) (hr : HR B H h) (hs : seqOf av H = some xs) : ∃ a vs n, v = .ref a ∧ h.get? a = some (lob vs n) ∧ VRs H h xs vs.toList := by
  cases r with
  | lst k e r => cases hs; exact ⟨_, _, _, rfl, e, r⟩
  | list a =>
    obtain ⟨vs, n, e, r⟩ := hr.list (a, xs) (lookup_mem hs)
    exact ⟨a, vs, n, rfl, e, r⟩
  | _ => simp [isL] at hl
theorem Wk.list {tgt : Expr} (hh : A.handled = none) {av : AV} (hl : isL av = true) (I a : Addr) (ht : ∀ v, letOwnedTupleGo tgt (.ref I) v = pure ()) :
    Wk prog w B A (.ref I) tgt (atI I) false (seqOf av) (fun i H h => h.IsListIter I a i ∧ VR H h av (.ref a)) (fun i H h v => h.IsListIter I a (i + 1) ∧ VR H h av (.ref a)) where
  shape := fun i H h st => by
    obtain ⟨⟨o, e, c, d⟩, _⟩ := st
    exact shape_one e d
  keep := fun i H h H' h' W st x pl hW => by
    obtain ⟨⟨o, e, c, d⟩, r⟩ := st
    exact ⟨⟨o, x.fields (hW I rfl) e d (by rw [c]; simp), c, d⟩, r.tr x pl⟩
  item := fun i H xs x s E st hr hs hx => by
    obtain ⟨a', vs, n, ea, e, rs⟩ := listAt hl st.2 hr hs
    cases ea
    obtain ⟨v, hv, rv⟩ := rs.get hx
    refine wpAny_pyNext_list_item st.1 (isList_of e) (x := v) (by simpa using hv) fun h' hit hs' => ?_
    obtain ⟨o, ei, c, d⟩ := st.1
    have t : Tr (atI I) H s.heap H h' := .keepBut (sameBut_keep hs')
    have pl : Plain (atI I) s.heap := (shape_one ei d).plain
    exact ⟨v, h', s.toks, rfl, rfl, rv.tr t pl, sameBut_keep hs', hit, st.2.tr t pl⟩
  go := fun i H s v E mid => by
    rw [ht v]
    exact wpAny_pure ⟨s.heap, s.toks, fun _ => False, rfl, fun _ q => q.elim, fun _ _ q => q.elim, fun _ _ _ e => e, mid⟩
  done := fun i H xs s E st hr hs hx => by
    obtain ⟨a', vs, n, ea, e, rs⟩ := listAt hl st.2 hr hs
    cases ea
    have : vs[i]? = none := by
      have := List.getElem?_eq_none_iff.mp hx
      rw [Array.getElem?_eq_none_iff, rs.size]; exact this
    exact wpAny_pyNext_list_end hh st.1 (isList_of e) this fun h' he => ⟨h', s.toks, rfl, rfl, extBut_keep he⟩
  self := fun i H s Q E st q => wpAny_pyIter_listiter st.1 q
theorem go_tupleiter {tgt : Expr} {I a : Addr} {i : Nat} {v : Value} {s : Shared} {Q : Unit → Shared → Prop} {E : Value → Shared → Prop} (hi : s.heap.IsTupleIter I a i) (h : Q () s) : wpAny (model prog w) A (letOwnedTupleGo tgt (.ref I) v) Q E s := by
  obtain ⟨o, e, c, d⟩ := hi
  have key : wpAny (model prog w) A (match v with
      | .ref b => do
        let o ← load I
        match o.cls, o.data with
        | .type n, .fields vs =>
          if ["enumerate", "zip", "dict_itemiterator", "dict_reverseitemiterator", "odict_iterator", "itertools.zip_longest", "itertools.pairwise"].contains n && vs[0]? == some (rawInt b) then
            rule "for.unpacks-the-owned-tuple"
            updateField I 0 .none
        | _, _ => pure ()
      | _ => pure ()) Q E s := by
    cases v
    case ref b =>
      refine wpAny_bind (wpAny_load e ?_)
      rw [c, d]
      dsimp only
      rw [show ((["enumerate", "zip", "dict_itemiterator", "dict_reverseitemiterator", "odict_iterator", "itertools.zip_longest", "itertools.pairwise"].contains "tuple_iterator") = false) from by decide, Bool.false_and, if_neg Bool.false_ne_true]
      exact wpAny_pure h
    all_goals exact wpAny_pure h
  cases tgt
  case Tuple => cases v <;> first | exact key | exact wpAny_pure h
  case List => cases v <;> first | exact key | exact wpAny_pure h
  all_goals exact wpAny_pure h
theorem Wk.tuple {tgt : Expr} (hh : A.handled = none) {xs : List AV} (I a : Addr) :
    Wk prog w B A (.ref I) tgt (atI I) false (seqOf (.tup xs)) (fun i H h => h.IsTupleIter I a i ∧ VR H h (.tup xs) (.ref a)) (fun i H h v => h.IsTupleIter I a (i + 1) ∧ VR H h (.tup xs) (.ref a)) where
  shape := fun i H h st => by
    obtain ⟨⟨o, e, c, d⟩, _⟩ := st
    exact shape_one e d
  keep := fun i H h H' h' W st x pl hW => by
    obtain ⟨⟨o, e, c, d⟩, r⟩ := st
    exact ⟨⟨o, x.fields (hW I rfl) e d (by rw [c]; simp), c, d⟩, r.tr x pl⟩
  item := fun i H xs' x s E st hr hs hx => by
    cases hs
    obtain ⟨a', vs, n, ea, e, rs⟩ := st.2.tupInv
    cases ea
    obtain ⟨v, hv, rv⟩ := rs.get hx
    refine wpAny_pyNext_tuple_item st.1 (isTuple_of e) (x := v) (by simpa using hv) fun h' hit hs' => ?_
    obtain ⟨o, ei, c, d⟩ := st.1
    have t : Tr (atI I) H s.heap H h' := .keepBut (sameBut_keep hs')
    have pl : Plain (atI I) s.heap := (shape_one ei d).plain
    exact ⟨v, h', s.toks, rfl, rfl, rv.tr t pl, sameBut_keep hs', hit, st.2.tr t pl⟩
  go := fun i H s v E mid => by
    exact go_tupleiter mid.1 ⟨s.heap, s.toks, fun _ => False, rfl, fun _ q => q.elim, fun _ _ q => q.elim, fun _ _ _ e => e, mid⟩
  done := fun i H xs' s E st hr hs hx => by
    cases hs
    obtain ⟨a', vs, n, ea, e, rs⟩ := st.2.tupInv
    cases ea
    have : vs[i]? = none := by
      have := List.getElem?_eq_none_iff.mp hx
      rw [Array.getElem?_eq_none_iff, rs.size]; exact this
    exact wpAny_pyNext_tuple_end hh st.1 (isTuple_of e) this fun h' he => ⟨h', s.toks, rfl, rfl, extBut_keep he⟩
  self := fun i H s Q E st q => wpAny_pyIter_tupleiter st.1 q

variable {P : (HP → Option (List AV)) → HP → Prop} {env : Env} {l : Loc}
theorem size_none {h : Heap} : h.get? h.objs.size = none := by
  cases q : h.get? h.objs.size with
  | none => rfl
  | some o => exact absurd (Heap.lt_size q) (Nat.lt_irrefl _)
theorem itr_list {tgt : Expr} (hh : A.handled = none) {av : AV} (hl : isL av = true) (hk : ∀ a, av = .list a → a ∈ keys H) (p : P (seqOf av) H) (ht : ∀ I v, letOwnedTupleGo tgt (.ref I) v = pure () := by exact fun _ _ => rfl) : ITR prog w B A tgt false av H P := .mk fun s E v hr r => by
  have : ∃ a vs n, v = .ref a ∧ s.heap.get? a = some (lob vs n) := by
    cases r with
    | lst k e r => exact ⟨_, _, _, rfl, e⟩
    | list a =>
      obtain ⟨q, hq, rfl⟩ := List.mem_map.mp (hk a rfl)
      obtain ⟨vs, n, e, _⟩ := hr.list q hq
      exact ⟨_, vs, n, rfl, e⟩
    | _ => simp [isL] at hl
  obtain ⟨a, vs, n, rfl, e⟩ := this
  refine wpAny_pyIter_list (isList_of e) ?_
  have k : ∀ b o, s.heap.get? b = some o → (s.heap.push { cls := .type "list_iterator", data := .fields #[.ref a, .int 0 0] }).get? b = some o := fun b o e => Heap.get?_push_of_some _ e
  exact ⟨H, _, s.toks, atI s.heap.objs.size, _, _, _, rfl, p, Wk.list hh hl s.heap.objs.size a (ht _), ⟨⟨_, Heap.get?_push_size _ rfl, rfl, rfl⟩, r.tr' (.keeps k)⟩, fun b hb => by rw [show b = _ from hb]; exact size_none, hr.keeps k, .keeps k⟩
theorem itr_tup {tgt : Expr} (hh : A.handled = none) {xs : List AV} (p : P (seqOf (.tup xs)) H) : ITR prog w B A tgt false (.tup xs) H P := .mk fun s E v hr r => by
  obtain ⟨a, vs, n, rfl, e, _⟩ := r.tupInv
  refine wpAny_pyIter_tuple (isTuple_of e) ?_
  have k : ∀ b o, s.heap.get? b = some o → (s.heap.push { cls := .type "tuple_iterator", data := .fields #[.ref a, .int 0 0] }).get? b = some o := fun b o e => Heap.get?_push_of_some _ e
  exact ⟨H, _, s.toks, atI s.heap.objs.size, _, _, _, rfl, p, Wk.tuple hh s.heap.objs.size a, ⟨⟨_, Heap.get?_push_size _ rfl, rfl, rfl⟩, r.tr' (.keeps k)⟩, fun b hb => by rw [show b = _ from hb]; exact size_none, hr.keeps k, .keeps k⟩
noncomputable abbrev KItr (prog : Program) (w : World) (B : GB) (A : Around) (tgt : Expr) (soft : Bool) (P : (HP → Option (List AV)) → HP → Prop) (a : AV) (H₁ : HP) : Prop := ITR prog w B A tgt soft a H₁ P
theorem itx_value {iter tgt : Expr} {soft : Bool} (h : EX prog w B A env l iter H (KItr prog w B A tgt soft P)) : ITX prog w B A env l iter tgt soft H P := .mk fun s E hr F =>
  use (h.run s E hr F) fun a v H₁ h₁ tk₁ p r hr₁ t₁ => wpAny_mono (p.run { s with heap := h₁, toks := tk₁ } E v hr₁ r) (fun it s' q => by
    obtain ⟨H', h', tk, fp, St, Mid, seq, rfl, p', W, st, fresh, hr', t'⟩ := q
    exact ⟨H', h', tk, fp, St, Mid, seq, rfl, p', W, st, fun b hb => t₁.none_of id (fresh b hb), hr', t₁.trans' t'⟩) fun _ _ e => e
end
end Mine
namespace Mine
open PySem PySem.Calls

section
variable {prog : Program} {w : World} {B : GB} {A : Around} {H : HP} {P : (HP → Option (List AV)) → HP → Prop} {env : Env} {l : Loc} {tgt : Expr} {soft : Bool}
theorem signs_get {x : Str} {i : Nat} {a : AV} (h : (signs x)[i]? = some a) : ∃ c, x.cps[i]? = some c ∧ a = .str ⟨#[c]⟩ := by
  simp only [signs, List.getElem?_map, Option.map_eq_some_iff] at h
  obtain ⟨c, hc, rfl⟩ := h
  exact ⟨c, by simpa using hc, rfl⟩
theorem signs_none {x : Str} {i : Nat} (h : (signs x)[i]? = none) : x.cps[i]? = none := by
  simpa [signs] using h
theorem strIter_cases (x : Str) : strIterType x = "str_ascii_iterator" ∨ strIterType x = "str_iterator" := by
  unfold strIterType; split <;> simp
theorem Wk.str {x : Str} {t : Tok} (hh : A.handled = none) (I : Addr) (ht : ∀ v, letOwnedTupleGo tgt (.ref I) v = pure ()) :
    Wk prog w B A (.ref I) tgt (atI I) false (seqOf (.str x)) (fun i H h => h.IsStrIter I (strIterType x) x t i) (fun i H h v => h.IsStrIter I (strIterType x) x t (i + 1)) where
  shape := fun i H h st => by
    obtain ⟨o, e, c, d⟩ := st
    exact shape_one e d
  keep := fun i H h H' h' W st x' pl hW => by
    obtain ⟨o, e, c, d⟩ := st
    exact ⟨o, x'.fields (hW I rfl) e d (by rw [c]; rcases strIter_cases x with q | q <;> rw [q] <;> simp), c, d⟩
  item := fun i H xs a s E st hr hs hx => by
    cases hs
    obtain ⟨c, hc, rfl⟩ := signs_get hx
    rcases strIter_cases x with q | q
    · simp only [q] at st ⊢
      exact wpAny_pyNext_ascii_item st hc fun h' hit hs' => ⟨_, h', _, rfl, rfl, .str .., sameBut_keep hs', hit⟩
    · simp only [q] at st ⊢
      exact wpAny_pyNext_wide_item st hc fun h' hit hs' => ⟨_, h', _, rfl, rfl, .str .., sameBut_keep hs', hit⟩
  go := fun i H s v E mid => by
    rw [ht v]
    exact wpAny_pure ⟨s.heap, s.toks, fun _ => False, rfl, fun _ q => q.elim, fun _ _ q => q.elim, fun _ _ _ e => e, mid⟩
  done := fun i H xs s E st hr hs hx => by
    cases hs
    have hc := signs_none hx
    rcases strIter_cases x with q | q
    · simp only [q] at st ⊢
      exact wpAny_pyNext_ascii_end hh st hc fun h' he => ⟨h', s.toks, rfl, rfl, extBut_keep he⟩
    · simp only [q] at st ⊢
      exact wpAny_pyNext_wide_end hh st hc fun h' he => ⟨h', s.toks, rfl, rfl, extBut_keep he⟩
  self := fun i H s Q E st hQ => by
    rcases strIter_cases x with q | q
    · simp only [q] at st; exact wpAny_pyIter_striter_ascii st hQ
    · simp only [q] at st; exact wpAny_pyIter_striter_wide st hQ
theorem itr_str {x : Str} (hh : A.handled = none) (p : P (seqOf (.str x)) H) (ht : ∀ I v, letOwnedTupleGo tgt (.ref I) v = pure () := by exact fun _ _ => rfl) : ITR prog w B A tgt false (.str x) H P := .mk fun s E v hr r => by
  cases r with
  | str _ t =>
    refine wpAny_pyIter_strU ?_
    have k : ∀ b o, s.heap.get? b = some o → (s.heap.push { cls := .type (strIterType x), data := .fields #[.str x t, .int 0 0] }).get? b = some o := fun b o e => Heap.get?_push_of_some _ e
    exact ⟨H, _, s.toks, atI s.heap.objs.size, _, _, _, rfl, p, Wk.str hh s.heap.objs.size (ht _), ⟨_, Heap.get?_push_size _ rfl, rfl, rfl⟩, fun b hb => by rw [show b = _ from hb]; exact size_none, hr.keeps k, .keeps k⟩

structure OPI (prog : Program) (w : World) (B : GB) (A : Around) (T : String) (tgt : Expr) (soft : Bool) (as : List AV) (H : HP) (P : (HP → Option (List AV)) → HP → Prop) : Prop where
  run : ∀ (s : Shared) (E : Value → Shared → Prop) (vs : List Value), HR B H s.heap → VRs H s.heap as vs → wpAny (model prog w) A (call (.type T) vs) (fun v s₁ => wpAny (model prog w) A (pyIter v) (IPost prog w B A tgt soft s H P) E s₁) E s
theorem itx_callT {x : Str} {px pos : Pos} {e : Expr} {es : List Expr} {T : String}
    (h : EX prog w B A env l (.Name x px) H fun a H₁ => a = .val (.type T) ∧ EL prog w B A env l pos (e :: es) H₁ fun as H₂ => OPI prog w B A T tgt soft as H₂ P)
    (he : starEach (e :: es) env = (false, eval e env) :: starEach es env := by rfl) (hplain : (backTo pos (starEach es env)).any (·.1) = false := by rfl) : ITX prog w B A env l (.Call (.Name x px) (e :: es) [] pos) tgt soft H P := .mk fun s E hr F => by
  refine wpAny_Call_ofName (use (h.run s E hr F) fun a v H₁ h₁ tk₁ p r hr₁ t₁ => ?_)
  obtain ⟨rfl, p⟩ := p
  (first | obtain ⟨_, rfl⟩ := r.sh | obtain rfl := r.sh)
  refine PyProof.Rows.callWith_type1 (useL (p.run { s with heap := h₁, toks := tk₁ } E hr₁ (F.tr t₁)) fun as vs H₂ h₂ tk₂ p₂ r₂ hr₂ t₂ => ?_) he hplain
  refine wpAny_mono (p₂.run { s with heap := h₂, toks := tk₂ } E vs hr₂ r₂) (fun v s₃ q => wpAny_mono q (fun it s₄ q => ?_) fun _ _ e => e) fun _ _ e => e
  obtain ⟨H', h', tk, fp, St, Mid, seq, rfl, p', W, st, fresh, hr', t'⟩ := q
  have t := t₁.trans' t₂
  exact ⟨H', h', tk, fp, St, Mid, seq, rfl, p', W, st, fun b hb => t.none_of id (fresh b hb), hr', t.trans' t'⟩

noncomputable def nums (a c : Int) (n : Nat) : List AV := (List.range n).map fun (i : Nat) => AV.int (a + (i : Int) * c)
theorem Wk.range (hh : A.handled = none) (I : Addr) (a c : Int) (n : Nat) (ht : ∀ v, letOwnedTupleGo tgt (.ref I) v = pure ()) :
    Wk prog w B A (.ref I) tgt (atI I) false (fun _ => some (nums a c n)) (fun i H h => i ≤ n ∧ IsRangeIter h I (a + (i : Nat) * c) ((n : Int) - (i : Nat)) c) (fun i H h v => i + 1 ≤ n ∧ IsRangeIter h I (a + ((i + 1 : Nat) : Int) * c) ((n : Int) - ((i + 1 : Nat) : Int)) c) where
  shape := fun i H h st => shape_one st.2 rfl
  keep := fun i H h H' h' W st x' pl hW => ⟨st.1, x'.fields (hW I rfl) st.2 rfl (by simp)⟩
  item := fun i H xs x s E st hr hs hx => by
    cases hs
    simp only [nums, List.getElem?_map, Option.map_eq_some_iff] at hx
    obtain ⟨j, hj, rfl⟩ := hx
    obtain ⟨hi, rfl⟩ : i < n ∧ i = j := by
      obtain ⟨h1, h2⟩ := List.getElem?_eq_some_iff.mp hj
      simp at h1 h2; exact ⟨h1, h2⟩
    refine wpAny_pyNext_range_item st.2 (by omega) fun h' hit' hs' => ⟨_, h', _, rfl, rfl, .int .., sameBut_keep hs', hi, ?_⟩
    have e1 : a + ((i + 1 : Nat) : Int) * c = a + (i : Int) * c + c := by push_cast; rw [Int.add_mul, Int.one_mul, Int.add_assoc]
    have e2 : (n : Int) - ((i + 1 : Nat) : Int) = (n : Int) - (i : Int) - 1 := by push_cast; omega
    rw [e1, e2]; exact hit'
  go := fun i H s v E mid => by
    rw [ht v]
    exact wpAny_pure ⟨s.heap, s.toks, fun _ => False, rfl, fun _ q => q.elim, fun _ _ q => q.elim, fun _ _ _ e => e, mid⟩
  done := fun i H xs s E st hr hs hx => by
    cases hs
    have : n ≤ i := by simpa [nums] using hx
    exact wpAny_pyNext_range_end hh st.2 (by omega) fun h' he => ⟨h', s.toks, rfl, rfl, extBut_keep he⟩
  self := fun i H s Q E st hQ => wpAny_pyIter_rangeiter st.2 hQ
theorem range_start {a b c : Int} {t u v : Tok} {n : Nat} (hh : A.handled = none) (ht : ∀ I v, letOwnedTupleGo tgt (.ref I) v = pure ()) {s : Shared} {E : Value → Shared → Prop} {tk : Nat} (hr : HR B H s.heap)
    (hs : Builtin.Range.small a b c = true) (hn : Builtin.Range.rangeSize a b c = (n : Int)) (p : P (fun _ => some (nums a c n)) H) :
    wpAny (model prog w) A (pyIter (.ref s.heap.objs.size)) (IPost prog w B A tgt false s H P) E { s with heap := s.heap.push { cls := .type "range", data := .fields #[.int a t, .int b u, .int c v] }, toks := tk } := by
  refine wpAny_pyIter_range (IsRange.new ..) hs ?_
  rw [hn]
  have k : ∀ b' o, s.heap.get? b' = some o → ((s.heap.push { cls := .type "range", data := .fields #[.int a t, .int b u, .int c v] }).push { cls := .type "range_iterator", data := .fields #[rawInt a, rawInt (n : Int), rawInt c] }).get? b' = some o := fun b o e => Heap.get?_push_of_some _ (Heap.get?_push_of_some _ e)
  have hz : (s.heap.push { cls := .type "range", data := .fields #[.int a t, .int b u, .int c v] }).objs.size = s.heap.objs.size + 1 := Heap.size_push ..
  have g := Heap.get?_push_size (s.heap.push { cls := .type "range", data := .fields #[.int a t, .int b u, .int c v] }) (o := { cls := .type "range_iterator", data := .fields #[rawInt a, rawInt (n : Int), rawInt c] }) rfl
  show IPost prog w B A tgt false s H P (.ref (s.heap.push { cls := .type "range", data := .fields #[.int a t, .int b u, .int c v] }).objs.size) _
  rw [hz] at g ⊢
  refine ⟨H, _, tk, atI (s.heap.objs.size + 1), _, _, _, rfl, p, Wk.range hh (s.heap.objs.size + 1) a c n (ht _), ⟨Nat.zero_le _, ?_⟩, fun b hb => ?_, hr.keeps k, .keeps k⟩
  · simpa [IsRangeIter] using g
  · rw [show b = _ from hb]
    cases q : s.heap.get? (s.heap.objs.size + 1) with
    | none => rfl
    | some o => exact absurd (Heap.lt_size q) (Nat.not_lt.mpr (Nat.le_succ _))
theorem opi_range1 {n : Int} (hh : A.handled = none) (h0 : 0 ≤ n) (h1 : n ≤ 1000) (p : P (fun _ => some (nums 0 1 n.toNat)) H) (ht : ∀ I v, letOwnedTupleGo tgt (.ref I) v = pure () := by exact fun _ _ => rfl) : OPI prog w B A "range" tgt false [.int n] H P := .mk fun s E vs hr r => by
  obtain ⟨v, rfl, r1⟩ := r.one
  (first | obtain ⟨_, rfl⟩ := r1.sh | obtain rfl := r1.sh)
  exact call_range_1 (range_start hh ht hr (small_one (by omega) (by omega) (by omega) (by omega)) (by rw [rangeSize_one]; split <;> omega) p)
theorem opi_range2 {a b : Int} (hh : A.handled = none) (h0 : 0 ≤ a) (h1 : a ≤ 1000) (h2 : 0 ≤ b) (h3 : b ≤ 1000) (p : P (fun _ => some (nums a 1 (b - a).toNat)) H) (ht : ∀ I v, letOwnedTupleGo tgt (.ref I) v = pure () := by exact fun _ _ => rfl) : OPI prog w B A "range" tgt false [.int a, .int b] H P := .mk fun s E vs hr r => by
  obtain ⟨v, u, rfl, r1, r2⟩ := r.two
  (first | obtain ⟨_, rfl⟩ := r1.sh | obtain rfl := r1.sh); (first | obtain ⟨_, rfl⟩ := r2.sh | obtain rfl := r2.sh)
  exact call_range_2 (range_start hh ht hr (small_one (by omega) (by omega) (by omega) (by omega)) (by rw [rangeSize_one]; split <;> omega) p)
theorem opi_rangeDown {n : Nat} (hh : A.handled = none) (h1 : n ≤ 1000) (p : P (fun _ => some (nums ((n : Int) - 1) (-1) n)) H) (ht : ∀ I v, letOwnedTupleGo tgt (.ref I) v = pure () := by exact fun _ _ => rfl) : OPI prog w B A "range" tgt false [.int ((n : Int) - 1), .int (-1), .int (-1)] H P := .mk fun s E vs hr r => by
  obtain ⟨v, u, t, rfl, r1, r2, r3⟩ := r.three
  (first | obtain ⟨_, rfl⟩ := r1.sh | obtain rfl := r1.sh); (first | obtain ⟨_, rfl⟩ := r2.sh | obtain rfl := r2.sh); (first | obtain ⟨_, rfl⟩ := r3.sh | obtain rfl := r3.sh)
  have hsz : Builtin.Range.rangeSize ((n : Int) - 1) (-1) (-1) = (n : Int) := by
    unfold Builtin.Range.rangeSize
    simp only [show ¬ ((-1 : Int) > 0) by decide, if_false, Int.neg_neg, Int.ediv_one]
    split <;> omega
  refine call_range_3 (by decide) (range_start hh ht hr ?_ hsz p) (.inl (PyProof.noPylong_small (by decide)))
  unfold Builtin.Range.small
  rw [hsz]
  simp only [Builtin.Range.rangeFitsLong, Bool.and_eq_true, Bool.or_eq_true, decide_eq_true_eq, beq_iff_eq, show ¬ ((-1 : Int) > 0) by decide, if_false]
  omega

noncomputable def enumd (xs : List AV) : List AV := xs.zipIdx.map fun p => AV.tup [.int p.2, p.1]
theorem enumd_get {xs : List AV} {i : Nat} {a : AV} (h : (enumd xs)[i]? = some a) : ∃ x, xs[i]? = some x ∧ a = .tup [.int i, x] := by
  simp only [enumd, List.getElem?_map, Option.map_eq_some_iff, List.getElem?_zipIdx] at h
  obtain ⟨p, ⟨x, hx, rfl⟩, rfl⟩ := h
  exact ⟨x, hx, by simp⟩
theorem enumd_length {xs : List AV} : (enumd xs).length = xs.length := by simp [enumd]
theorem enumd_none {xs : List AV} {i : Nat} (h : (enumd xs)[i]? = none) : xs[i]? = none := by
  rw [List.getElem?_eq_none_iff] at h ⊢; rwa [enumd_length] at h
noncomputable abbrev at2 (e I : Addr) : Addr → Prop := fun b => b = e ∨ b = I
theorem Wk.enumList {elts : List Expr} {k : Nat} {tpos : Pos} (hh : A.handled = none) {av : AV} (hl : isL av = true) (e I a : Addr) (hei : e ≠ I) :
    Wk prog w B A (.ref e) (.Tuple elts k tpos) (at2 e I) false (fun H => (seqOf av H).map enumd) (fun i H h => (∃ old, IsEnum h e I i old) ∧ h.IsListIter I a i ∧ VR H h av (.ref a))
      (fun i H h v => (∃ T x, v = .ref T ∧ IsEnumOut h e I ((i : Int) + 1) x T) ∧ h.IsListIter I a (i + 1) ∧ VR H h av (.ref a)) where
  shape := fun i H h st => by
    obtain ⟨⟨old, he⟩, ⟨o, hi, c, d⟩, _⟩ := st
    intro b o' hb q
    rcases hb with rfl | rfl
    · rw [he] at q; cases q; exact .inl ⟨_, rfl, by intro id v h; simp at h⟩
    · rw [hi] at q; cases q; exact .inl ⟨_, d, by intro id v h; simp at h⟩
  keep := fun i H h H' h' W st x pl hW => by
    obtain ⟨⟨old, he⟩, ⟨o, hi, c, d⟩, r⟩ := st
    exact ⟨⟨old, x.fields (hW e (.inl rfl)) he rfl (by simp)⟩, ⟨o, x.fields (hW I (.inr rfl)) hi d (by rw [c]; simp), c, d⟩, r.tr x pl⟩
  item := fun i H xs' x' s E st hr hs hx => by
    obtain ⟨⟨old, he⟩, hit, ra⟩ := st
    simp only [Option.map_eq_some_iff] at hs
    obtain ⟨xs, hs, rfl⟩ := hs
    obtain ⟨x, hx', rfl⟩ := enumd_get hx
    obtain ⟨a', vs, n, ea, el, rs⟩ := listAt hl ra hr hs
    cases ea
    obtain ⟨v, hv, rv⟩ := rs.get hx'
    refine wpAny_pyNext_enum_item he hit (isList_of el) (x := v) (by simpa using hv) hei fun h' ho hit' hT hsz hk => ?_
    have kb : KeepBut (at2 e I) s.heap h' := fun b o hb q => hk b o (fun z => hb (.inl z)) (fun z => hb (.inr z)) q
    have t : Tr (at2 e I) H s.heap H h' := .keepBut kb
    obtain ⟨o, hi, c, d⟩ := hit
    have pl : Plain (at2 e I) s.heap := by
      intro b o' hb q
      rcases hb with rfl | rfl
      · rw [he] at q; cases q; exact ⟨fun vs n z => (nomatch z), fun z => (nomatch z), fun id v z => (by injection z with z; simp at z)⟩
      · rw [hi] at q; cases q; unfold Inert; rw [d]; exact ⟨fun vs n z => (nomatch z), fun z => (nomatch z), fun id v z => (by injection z with z; simp at z)⟩
    exact ⟨_, h', _, rfl, rfl, .tup (vs := #[.int i s.toks, v]) (n := 0) hT (.cons (.int ..) (.cons (rv.tr t pl) .nil)), kb, ⟨_, _, rfl, ho⟩, hit', ra.tr t pl⟩
  go := fun i H s v E mid => by
    obtain ⟨⟨T, x, rfl, ho⟩, hit, ra⟩ := mid
    refine wpAny_letOwnedTupleGo_enum ho fun h' he' hs' => ?_
    have t : Tr (atI e) H s.heap H h' := .keepBut (sameBut_keep hs')
    have sh : Shape false (atI e) s.heap := shape_one ho rfl
    obtain ⟨o, hi, c, d⟩ := hit
    refine ⟨h', s.toks, atI e, rfl, fun b hb => .inl hb, sh, sameBut_keep hs', ⟨x, by simpa using he'⟩, ⟨o, (hs'.2 I hei.symm).trans hi, c, d⟩, ra.tr t sh.plain⟩
  done := fun i H xs' s E st hr hs hx => by
    obtain ⟨⟨old, he⟩, hit, ra⟩ := st
    simp only [Option.map_eq_some_iff] at hs
    obtain ⟨xs, hs, rfl⟩ := hs
    obtain ⟨a', vs, n, ea, el, rs⟩ := listAt hl ra hr hs
    cases ea
    have : vs[i]? = none := by
      have := List.getElem?_eq_none_iff.mp (enumd_none hx)
      rw [Array.getElem?_eq_none_iff, rs.size]; exact this
    exact wpAny_pyNext_enum_end hh he hit (isList_of el) this fun h' hx => ⟨h', s.toks, rfl, rfl, fun b o hb q => hx b o (fun z => hb (.inr z)) q⟩
  self := fun i H s Q E st hQ => by
    obtain ⟨⟨old, he⟩, _, _⟩ := st
    exact wpAny_pyIter_enum he hQ
theorem opi_enumList {elts : List Expr} {k : Nat} {tpos : Pos} (hh : A.handled = none) {av : AV} (hl : isL av = true) (hk : ∀ a, av = .list a → a ∈ keys H) (p : P (fun H => (seqOf av H).map enumd) H) : OPI prog w B A "enumerate" (.Tuple elts k tpos) false [av] H P := .mk fun s E vs hr r => by
  obtain ⟨v, rfl, r1⟩ := r.one
  have : ∃ a vs n, v = .ref a ∧ s.heap.get? a = some (lob vs n) := by
    cases r1 with
    | lst k e r => exact ⟨_, _, _, rfl, e⟩
    | list a =>
      obtain ⟨q, hq, rfl⟩ := List.mem_map.mp (hk a rfl)
      obtain ⟨vs, n, e, _⟩ := hr.list q hq
      exact ⟨_, vs, n, rfl, e⟩
    | _ => simp [isL] at hl
  obtain ⟨a, vs, n, rfl, e⟩ := this
  refine call_enumerate_list (isList_of e) fun h' he hit hsz kp => wpAny_pyIter_enum he ?_
  refine ⟨H, h', s.toks, at2 (s.heap.objs.size + 1) s.heap.objs.size, _, _, _, rfl, p, Wk.enumList hh hl _ _ a (Nat.succ_ne_self _), ⟨⟨_, he⟩, hit, r1.tr' (.keeps kp)⟩, fun b hb => ?_, hr.keeps kp, .keeps kp⟩
  rcases hb with rfl | rfl
  · cases q : s.heap.get? (s.heap.objs.size + 1) with
    | none => rfl
    | some o => exact absurd (Heap.lt_size q) (Nat.not_lt.mpr (Nat.le_succ _))
  · exact size_none
end
end Mine
namespace Mine
open PySem PySem.Calls
open AutoSeq1 (wpAny_loadPart')

section
variable {prog : Program} {w : World} {A : Around} {E : Value → Shared → Prop} {s : Shared}
theorem nextOf_tuple_item {it t : Addr} {i : Nat} {items} {x : Value} {Q : Value → Shared → Prop} (hit : s.heap.IsTupleIter it t i)
    (ht : s.heap.IsTuple t items) (hx : items[i]? = some x)
    (hQ : ∀ h', h'.IsTupleIter it t (i + 1) → Heap.SameBut it s.heap h' → Q x { s with heap := h' }) :
    wpAny (model prog w) A (Builtin.SmallTypes.nextOf (.ref it)) Q E s := by
  obtain ⟨o, ho, hc, hd⟩ := id hit
  obtain ⟨ol, hol, _, nl, hdl⟩ := ht
  unfold Builtin.SmallTypes.nextOf
  refine wpAny_bind (wpAny_callSpecial?_slot (name := Str.ofString "__next__") hit.typeIs F.slot_tuple_iterator_next
    (wpAny_call_entry F.slot_tuple_iterator_next hit.typeIs F.entry_tuple_iterator_next ?_ (F.args_tuple_iterator_next_1 _)))
  show wpAny _ _ (field (.ref it) 0 >>= _) _ _ s
  refine wpAny_bind (wpAny_field ho hd (x := .ref t) rfl ?_)
  show wpAny _ _ (if (Value.ref t == Value.none) = true then _ else _) _ _ s
  rw [if_neg (show ¬ ((Value.ref t == Value.none) = true) from Bool.false_ne_true)]
  show wpAny _ _ (field (.ref it) 1 >>= _) _ _ s
  refine wpAny_bind (wpAny_field ho hd (x := .int i 0) rfl ?_)
  show wpAny _ _ (seqItems? (.ref t) >>= _) _ _ s
  refine wpAny_bind (wpAny_seqItems hol hdl ?_)
  simp only [Int.toNat_natCast, hx]
  refine wpAny_bind (wpAny_setField ho hd (by simp) (wpAny_pure ⟨x, rfl, wpAny_pure (hQ _ ?_ (Heap.SameBut.update ..))⟩))
  exact ⟨_, Heap.get?_update_self _ ho (Obj.isFreed_of_fields (Obj.data_mapFields hd _)), (Obj.cls_mapFields ..).trans hc, by
    rw [Obj.data_mapFields hd]; simp [rawInt]⟩
theorem nextOf_tuple_end {it t : Addr} {i : Nat} {items} {Q : Value → Shared → Prop} (hh : A.handled = none)
    (hit : s.heap.IsTupleIter it t i) (ht : s.heap.IsTuple t items) (hx : items[i]? = none)
    (hE : ∀ h' e, Heap.ExtBut it s.heap h' → (∃ o, h'.get? e = some o ∧ o.cls = .type "StopIteration") → E (.ref e) { s with heap := h' }) :
    wpAny (model prog w) A (Builtin.SmallTypes.nextOf (.ref it)) Q E s := by
  obtain ⟨o, ho, hc, hd⟩ := id hit
  obtain ⟨ol, hol, _, nl, hdl⟩ := ht
  unfold Builtin.SmallTypes.nextOf
  refine wpAny_bind (wpAny_callSpecial?_slot (name := Str.ofString "__next__") hit.typeIs F.slot_tuple_iterator_next
    (wpAny_call_entry F.slot_tuple_iterator_next hit.typeIs F.entry_tuple_iterator_next ?_ (F.args_tuple_iterator_next_1 _)))
  show wpAny _ _ (field (.ref it) 0 >>= _) _ _ s
  refine wpAny_bind (wpAny_field ho hd (x := .ref t) rfl ?_)
  show wpAny _ _ (if (Value.ref t == Value.none) = true then _ else _) _ _ s
  rw [if_neg (show ¬ ((Value.ref t == Value.none) = true) from Bool.false_ne_true)]
  show wpAny _ _ (field (.ref it) 1 >>= _) _ _ s
  refine wpAny_bind (wpAny_field ho hd (x := .int i 0) rfl ?_)
  show wpAny _ _ (seqItems? (.ref t) >>= _) _ _ s
  refine wpAny_bind (wpAny_seqItems hol hdl ?_)
  simp only [Int.toNat_natCast, hx]
  refine wpAny_bind (wpAny_rule (wpAny_bind (wpAny_setField ho hd (by simp) ?_)))
  show wpAny _ _ (newExc (.type "StopIteration") [] >>= _) _ _ _
  refine wpAny_bind ?_
  simp only [newExc, newTuple]
  refine wpAny_bind (wpAny_newObj_type ?_ (by size_fits))
  refine wpAny_bind (m := firstArgMember _ _) (wpAny_of_eq (a := Value.none) (by first | rfl | (simp only [firstArgMember]; rfl)) ?_)
  refine wpAny_newObj_type ?_ (by size_fits)
  simp only [raiseNew]
  refine wpAny_bind (wpAny_handled ?_)
  first | rw [show A.in1.handled = none from hh] | rw [hh]
  refine wpAny_bind (wpAny_pure (wpAny_throw ?_))
  exact hE _ _ (((Heap.SameBut.update ..).extBut.push _).push _) ⟨_, Heap.get?_push_size _ rfl, rfl⟩
end
theorem Draws.tup {prog : Program} {w : World} {A : Around} (hh : A.handled = none) (it l : Addr) (hne : l ≠ it) (items : Array Value) :
    Draws prog w A it [it, l] items.size (fun i v => items[i]? = some v) (fun i h => h.IsTupleIter it l i ∧ h.IsTuple l items) where
  live := fun _ _ st => let ⟨o, ho, _⟩ := st.1; ⟨o, ho⟩
  frame := fun _ _ _ st hk => ⟨st.1.at fun o e => hk it (by simp) o e, st.2.at fun o e => hk l (by simp) o e⟩
  item := fun i s Q E hi st hQ => by
    refine nextOf_tuple_item st.1 st.2 (x := items[i]) (by simp [hi]) fun h' hit' hs' => ?_
    exact hQ _ h' s.toks (by simp [hi]) ⟨hit', st.2.extBut hs'.extBut hne⟩ hs'
  done := fun s Q E st hE => nextOf_tuple_end hh st.1 st.2 (by simp) hE

theorem meets_enumerate_newT (l : Addr) (items : Array Value) (n : Nat) :
    Meets (Builtin.«enumerate.__new__» ⟨[.type "enumerate", .ref l], []⟩) (fun _ R s => s.heap.get? l = some (tob items n) ∧
      R (.ok (.ret (.ref (s.heap.push { cls := .type "tuple_iterator", data := .fields #[.ref l, .int 0 0] }).objs.size)))
        { s with heap := (s.heap.push { cls := .type "tuple_iterator", data := .fields #[.ref l, .int 0 0] }).push { cls := .type "enumerate", data := .fields #[.none, .bool false, .ref s.heap.objs.size, rawInt 0, .none, .none] } }) :=
  .of_wp fun prog w A R s h => by
    obtain ⟨hp, g, d, tk, os⟩ := s; obtain ⟨hl, h⟩ := h
    have hsub := sub_enumerate
    have hL : Heap.IsTuple (Shared.heap ⟨hp, g, d, tk, os⟩) l items := ⟨_, hl, rfl, n, rfl⟩
    wp_walk using wpAny_loadPart' hl
    refine wpAny_stack_any fun st => wpAny_pure ?_
    split
    · rename_i c _ _ _ _ _
      cases (c == Value.type "enumerate")
      · wp_walk using wpAny_loadPart' hl, wpAny_pyIter_tuple hL
        exact ⟨_, rfl, h⟩
      · wp_walk using wpAny_loadPart' hl, wpAny_pyIter_tuple hL
        exact ⟨_, rfl, h⟩
    · wp_walk using wpAny_loadPart' hl, wpAny_pyIter_tuple hL
      exact ⟨_, rfl, h⟩

section
variable {prog : Program} {w : World} {A : Around} {E : Value → Shared → Prop} {s : Shared}
theorem call_enumerate_tup {l : Addr} {items : Array Value} {n : Nat} {Q : Value → Shared → Prop} (hl : s.heap.get? l = some (tob items n))
    (h : ∀ h', IsEnum h' (s.heap.objs.size + 1) s.heap.objs.size 0 .none → h'.IsTupleIter s.heap.objs.size l 0 → h'.objs.size = s.heap.objs.size + 2 →
      (∀ b o, s.heap.get? b = some o → h'.get? b = some o) → Q (.ref (s.heap.objs.size + 1)) { s with heap := h' }) :
    wpAny (model prog w) A (call (.type "enumerate") [.ref l]) Q E s := by
  refine callType_new F.called_enumerate (by decide) (F.typeCall_enumerate_1 _) (F.newCall_enumerate_1 _) (fun obj => F.args_object_init_2 obj _) F.entry_enumerate_new
    (meets_enumerate_newT l items n) ⟨hl, ?_⟩
  have hz : (s.heap.push { cls := .type "tuple_iterator", data := .fields #[.ref l, .int 0 0] }).objs.size = s.heap.objs.size + 1 := Heap.size_push ..
  show _ ∧ _
  rw [hz]
  have he : IsEnum ((s.heap.push { cls := .type "tuple_iterator", data := .fields #[.ref l, .int 0 0] }).push
      { cls := .type "enumerate", data := .fields #[.none, .bool false, .ref s.heap.objs.size, rawInt 0, .none, .none] }) (s.heap.objs.size + 1) s.heap.objs.size 0 .none := by
    have := Heap.get?_push_size (s.heap.push { cls := .type "tuple_iterator", data := .fields #[.ref l, .int 0 0] })
      (o := { cls := .type "enumerate", data := .fields #[.none, .bool false, .ref s.heap.objs.size, rawInt 0, .none, .none] }) rfl
    rw [hz] at this; exact this
  refine ⟨⟨_, he, rfl⟩, h _ he ⟨_, Heap.get?_push_of_some _ (Heap.get?_push_size _ rfl), rfl, rfl⟩ (by rw [Heap.size_push, hz]) fun b o x => Heap.get?_push_of_some _ (Heap.get?_push_of_some _ x)⟩
end

section
variable {prog : Program} {w : World} {B : GB} {A : Around} {H : HP} {P : (HP → Option (List AV)) → HP → Prop} {env : Env} {l : Loc} {tgt : Expr} {soft : Bool}
theorem Wk.enumTup {elts : List Expr} {k : Nat} {tpos : Pos} (hh : A.handled = none) {xs : List AV} (e I a : Addr) (hei : e ≠ I) :
    Wk prog w B A (.ref e) (.Tuple elts k tpos) (at2 e I) false (fun H => some (enumd xs)) (fun i H h => (∃ old, IsEnum h e I i old) ∧ h.IsTupleIter I a i ∧ VR H h (.tup xs) (.ref a))
      (fun i H h v => (∃ T x, v = .ref T ∧ IsEnumOut h e I ((i : Int) + 1) x T) ∧ h.IsTupleIter I a (i + 1) ∧ VR H h (.tup xs) (.ref a)) where
  shape := fun i H h st => by
    obtain ⟨⟨old, he⟩, ⟨o, hi, c, d⟩, _⟩ := st
    intro b o' hb q
    rcases hb with rfl | rfl
    · rw [he] at q; cases q; exact .inl ⟨_, rfl, by intro id v h; simp at h⟩
    · rw [hi] at q; cases q; exact .inl ⟨_, d, by intro id v h; simp at h⟩
  keep := fun i H h H' h' W st x pl hW => by
    obtain ⟨⟨old, he⟩, ⟨o, hi, c, d⟩, r⟩ := st
    exact ⟨⟨old, x.fields (hW e (.inl rfl)) he rfl (by simp)⟩, ⟨o, x.fields (hW I (.inr rfl)) hi d (by rw [c]; simp), c, d⟩, r.tr x pl⟩
  item := fun i H xs' x' s E st hr hs hx => by
    obtain ⟨⟨old, he⟩, hit, ra⟩ := st
    cases hs
    obtain ⟨x, hx', rfl⟩ := enumd_get hx
    obtain ⟨a', vs, n, ea, el, rs⟩ := ra.tupInv
    cases ea
    obtain ⟨v, hv, rv⟩ := rs.get hx'
    obtain ⟨o, hi, c, d⟩ := id hit
    have haI : a ≠ I := fun z => by subst z; rw [hi] at el; cases el; simp [tob] at c
    have hea : e ≠ a := fun z => by subst z; rw [he] at el; have := congrArg (·.map Obj.cls) el; simp [tob] at this
    have hlt : i < vs.size := by rw [rs.size]; exact (List.getElem?_eq_some_iff.mp hx').1
    refine wpAny_pyNext_enum_itemD (Draws.tup (A := A.in1) hh I a haI vs) he ⟨hit, isTuple_of el⟩ hlt hei (by simp [hei, hea]) fun x'' h' tk hP ho hst hT hsz hk => ?_
    have ex : x'' = v := by
      have hv' : vs[i]? = some v := by simpa using hv
      rw [hv'] at hP; cases hP; rfl
    subst ex
    have kb : KeepBut (at2 e I) s.heap h' := fun b o hb q => hk b o (fun z => hb (.inl z)) (fun z => hb (.inr z)) q
    have t : Tr (at2 e I) H s.heap H h' := .keepBut kb
    have pl : Plain (at2 e I) s.heap := by
      intro b o' hb q
      rcases hb with rfl | rfl
      · rw [he] at q; cases q; exact ⟨fun vs n z => (nomatch z), fun z => (nomatch z), fun id v z => (by injection z with z; simp at z)⟩
      · rw [hi] at q; cases q; unfold Inert; rw [d]; exact ⟨fun vs n z => (nomatch z), fun z => (nomatch z), fun id v z => (by injection z with z; simp at z)⟩
    exact ⟨_, h', _, rfl, rfl, .tup (vs := #[.int i tk, x'']) (n := 0) hT (.cons (.int ..) (.cons (rv.tr t pl) .nil)), kb, ⟨_, _, rfl, ho⟩, hst.1, ra.tr t pl⟩
  go := fun i H s v E mid => by
    obtain ⟨⟨T, x, rfl, ho⟩, hit, ra⟩ := mid
    refine wpAny_letOwnedTupleGo_enum ho fun h' he' hs' => ?_
    have t : Tr (atI e) H s.heap H h' := .keepBut (sameBut_keep hs')
    have sh : Shape false (atI e) s.heap := shape_one ho rfl
    obtain ⟨o, hi, c, d⟩ := hit
    refine ⟨h', s.toks, atI e, rfl, fun b hb => .inl hb, sh, sameBut_keep hs', ⟨x, by simpa using he'⟩, ⟨o, (hs'.2 I hei.symm).trans hi, c, d⟩, ra.tr t sh.plain⟩
  done := fun i H xs' s E st hr hs hx => by
    obtain ⟨⟨old, he⟩, hit, ra⟩ := st
    cases hs
    obtain ⟨a', vs, n, ea, el, rs⟩ := ra.tupInv
    cases ea
    obtain ⟨o, hi, c, d⟩ := id hit
    have haI : a ≠ I := fun z => by subst z; rw [hi] at el; cases el; simp [tob] at c
    have hge : xs.length ≤ i := List.getElem?_eq_none_iff.mp (enumd_none hx)
    have hT : s.TypeIs (.ref e) "enumerate" := ⟨_, he, rfl⟩
    unfold pyNext
    refine wpAny_bind (wpAny_attempt (wpAny_callSpecial?_slot (name := Str.ofString "__next__") hT F.slot_enumerate_next
      (wpAny_call_entry F.slot_enumerate_next hT F.entry_enumerate_next ?_ (F.args_enumerate_next_1 _))))
    show wpAny _ _ (field (.ref e) 2 >>= _) _ _ _
    refine wpAny_bind (wpAny_field he rfl (x := .ref I) rfl ?_)
    refine wpAny_bind (nextOf_tuple_end (A := A.in1) hh hit (isTuple_of el) (by rw [Array.getElem?_eq_none_iff, rs.size]; exact hge) fun h' x he' hx' => ?_)
    obtain ⟨o, ho, hc⟩ := hx'
    refine wpAny_bind (wpAny_isInstance (T := "StopIteration") (b := true) ⟨o, ho, hc⟩ isSubtype_stop ?_)
    exact wpAny_pure ⟨h', s.toks, rfl, rfl, fun b o hb q => he' b o (fun z => hb (.inr z)) q⟩
  self := fun i H s Q E st hQ => by
    obtain ⟨⟨old, he⟩, _, _⟩ := st
    exact wpAny_pyIter_enum he hQ
theorem opi_enumTup {elts : List Expr} {k : Nat} {tpos : Pos} {xs : List AV} (hh : A.handled = none) (p : P (fun _ => some (enumd xs)) H) : OPI prog w B A "enumerate" (.Tuple elts k tpos) false [.tup xs] H P := .mk fun s E vs hr r => by
  obtain ⟨v, rfl, r1⟩ := r.one
  obtain ⟨a, vs, n, rfl, e, _⟩ := r1.tupInv
  refine call_enumerate_tup e fun h' he hit hsz kp => wpAny_pyIter_enum he ?_
  refine ⟨H, h', s.toks, at2 (s.heap.objs.size + 1) s.heap.objs.size, _, _, _, rfl, p, Wk.enumTup hh _ _ a (Nat.succ_ne_self _), ⟨⟨_, he⟩, hit, r1.tr' (.keeps kp)⟩, fun b hb => ?_, hr.keeps kp, .keeps kp⟩
  rcases hb with rfl | rfl
  · cases q : s.heap.get? (s.heap.objs.size + 1) with
    | none => rfl
    | some o => exact absurd (Heap.lt_size q) (Nat.not_lt.mpr (Nat.le_succ _))
  · exact size_none
end
end Mine
namespace Mine
open PySem PySem.Calls

theorem Softly.one {I : Addr} {h : Heap} {o : Obj} (e : h.get? I = some o) (d : ∀ vs n, o ≠ lob vs n) : Softly (atI I) h := fun b vs n hb q => by
  rw [show b = I from hb, e] at q; cases q; exact d vs n rfl
structure Src (prog : Program) (w : World) (A : Around) (I : Addr) (xs : List AV) (St : Nat → HP → Heap → Prop) : Prop where
  tf : tfs xs = true
  obj : ∀ i H h, St i H h → ∃ o fs, h.get? I = some o ∧ o.data = .fields fs ∧ o.cls ≠ .type "frame" ∧ ∀ id v, fs ≠ #[.builtin id, v]
  keep : ∀ i H h H' h' (W : Addr → Prop), St i H h → Tr W H h H' h' → Softly W h → ¬ W I → St i H' h'
  item : ∀ i H x (s : Shared) (E : Value → Shared → Prop), St i H s.heap → xs[i]? = some x →
    wpAny (model prog w) A (Builtin.SmallTypes.nextOf (.ref I)) (fun v s' => ∃ h' tk, s' = { s with heap := h', toks := tk } ∧ VR H h' x v ∧ Heap.SameBut I s.heap h' ∧ St (i + 1) H h') E s
  done : ∀ i H (s : Shared) (Q : Value → Shared → Prop) (E : Value → Shared → Prop), St i H s.heap → xs[i]? = none →
    (∀ h' e, Heap.ExtBut I s.heap h' → (∃ o, h'.get? e = some o ∧ o.cls = .type "StopIteration") → E (.ref e) { s with heap := h' }) → wpAny (model prog w) A (Builtin.SmallTypes.nextOf (.ref I)) Q E s

structure ZA (z TI TO i1 i2 : Addr) : Prop where
  TIz : TI ≠ z
  TOz : TO ≠ z
  i1z : i1 ≠ z
  i2z : i2 ≠ z
  TITO : TI ≠ TO
  TIi1 : TI ≠ i1
  TIi2 : TI ≠ i2
  TOi1 : TO ≠ i1
  TOi2 : TO ≠ i2
  i12 : i1 ≠ i2

theorem tfs_get : ∀ {xs : List AV} {i : Nat} {x : AV}, tfs xs = true → xs[i]? = some x → tf x = true
  | a :: xs, 0, x, h, e => by simp at e; subst e; simp [tfs] at h; exact h.1
  | a :: xs, i + 1, x, h, e => by simp [tfs] at h; exact tfs_get h.2 (by simpa using e)

section
variable {prog : Program} {w : World} {A : Around} {E : Value → Shared → Prop} {s : Shared} {H : HP}
theorem Src.same {I J : Addr} {xs : List AV} {St : Nat → HP → Heap → Prop} (S : Src prog w A I xs St) {i : Nat} {h h' : Heap} {o : Obj} (st : St i H h) (hs : Heap.SameBut J h h') (e : h.get? J = some o) (d : ∀ vs n, o ≠ lob vs n) (hij : I ≠ J) : St i H h' :=
  S.keep i H h H h' (atI J) st (.keepBut (sameBut_keep hs)) (Softly.one e d) hij
theorem VR.same {J : Addr} {h h' : Heap} {o : Obj} {x : AV} {v : Value} (r : VR H h x v) (hs : Heap.SameBut J h h') (e : h.get? J = some o) (d : ∀ vs n, o ≠ lob vs n) (ht : tf x = true) : VR H h' x v :=
  r.trS (.keepBut (sameBut_keep hs)) (Softly.one e d) ht
theorem tob_lob {vs us : Array Value} {n m : Nat} : tob vs n ≠ lob us m := fun q => by have := congrArg Obj.cls q; simp [lob, tob] at this

theorem zip_item {z TI TO i1 i2 : Addr} {k1 k2 : Nat} {xs ys : List AV} {S1 S2 : Nat → HP → Heap → Prop} (X : Src prog w A i1 xs S1) (Y : Src prog w A i2 ys S2) {x y : AV} {a b : Value} {Q : Value → Shared → Prop} (D : ZA z TI TO i1 i2)
    (hz : IsZip s.heap z TI TO .none) (hTI : IsPair s.heap TI (.ref i1) (.ref i2)) (hTO : IsPair s.heap TO a b)
    (h1 : S1 k1 H s.heap) (h2 : S2 k2 H s.heap) (hx : xs[k1]? = some x) (hy : ys[k2]? = some y)
    (hQ : ∀ h' tk vx vy (T : Addr), IsZip h' z TI TO (rawInt T) → IsPair h' TO vx vy → S1 (k1 + 1) H h' → S2 (k2 + 1) H h' → IsPair h' T vx vy → VR H h' x vx → VR H h' y vy →
      (∀ c o, c ≠ z → c ≠ TO → c ≠ i1 → c ≠ i2 → s.heap.get? c = some o → h'.get? c = some o) → Q (.ref T) { s with heap := h', toks := tk }) :
    wpAny (model prog w) A (Builtin.«zip.__next__» ⟨[.ref z], []⟩) (fun fin s' => ∃ v, fin = .done (.ret v) ∧ Q v s') E s := by
  have tx := tfs_get X.tf hx
  have ty := tfs_get Y.tf hy
  show wpAny _ _ (field (.ref z) 2 >>= _) _ _ _
  refine wpAny_bind (wpAny_field hz rfl (x := .bool false) rfl ?_)
  show wpAny _ _ (field (.ref z) 3 >>= _) _ _ _
  refine wpAny_bind (wpAny_field hz rfl (x := .ref TI) rfl ?_)
  refine wpAny_bind (wpAny_seqItems hTI rfl ?_)
  show wpAny _ _ (Builtin.SmallTypes.ownedTupleIsFree (.ref z) >>= _) _ _ _
  refine wpAny_bind ?_
  unfold Builtin.SmallTypes.ownedTupleIsFree
  refine wpAny_bind (wpAny_field hz rfl (x := .none) rfl (wpAny_pure ?_))
  simp only [if_true]
  refine wpAny_bind (wpAny_rule ?_)
  refine wpAny_bind (wpAny_field hz rfl (x := .ref TO) rfl ?_)
  refine wpAny_bind (wpAny_setField_rec hz (by simp) fun h₁ hz₁ hs₁ => ?_)
  replace hz₁ : IsZip h₁ z TI TO .ellipsis := hz₁
  have hfz : ∀ vs n (x : Value), ({ cls := .type "zip", dict := none, data := .fields #[x, .bool false, .bool false, .ref TI, .ref TO], slots := #[] } : Obj) ≠ lob vs n := fun vs n x q => by have := congrArg Obj.data q; simp [lob] at this
  have h1₁ := X.same (H := H) h1 hs₁ hz (hfz · · _) D.i1z
  have h2₁ := Y.same (H := H) h2 hs₁ hz (hfz · · _) D.i2z
  refine wpAny_bind ?_
  simp only [List.zipIdx_cons, List.zipIdx_nil, List.forIn_cons, List.forIn_nil]
  refine wpAny_bind (wpAny_bind (wpAny_onRaise ?_))
  show wpAny _ _ (Builtin.SmallTypes.nextOf (.ref i1) >>= _) _ _ _
  refine wpAny_bind (wpAny_mono (X.item k1 H x { s with heap := h₁ } _ h1₁ hx) (fun vx s₂ q => ?_) fun _ _ e => e)
  obtain ⟨h₂, tk₂, rfl, rx₂, hs₂, h1₂⟩ := q
  replace hs₂ : Heap.SameBut i1 h₁ h₂ := hs₂
  refine wpAny_pure ?_
  obtain ⟨o1, f1, e1, d1, _⟩ := X.obj _ _ _ h1₁
  have hf1 : ∀ vs n, o1 ≠ lob vs n := fun vs n q => by rw [q] at d1; cases d1
  have h2₂ := Y.same h2₁ hs₂ e1 hf1 D.i12.symm
  have hTO₂ : IsPair h₂ TO a b := hs₂.extBut _ _ D.TOi1 (hs₁.extBut _ _ D.TOz hTO)
  refine wpAny_bind (wpAny_seqItems hTO₂ rfl ?_)
  refine wpAny_bind (wpAny_updateSeq_pair hTO₂ fun h₃ hTO₃ hs₃ => ?_)
  replace hTO₃ : IsPair h₃ TO vx b := hTO₃
  replace hs₃ : Heap.SameBut TO h₂ h₃ := hs₃
  have h1₃ := X.same h1₂ hs₃ hTO₂ (fun _ _ => tob_lob) D.TOi1.symm
  have h2₃ := Y.same h2₂ hs₃ hTO₂ (fun _ _ => tob_lob) D.TOi2.symm
  have rx₃ := rx₂.same hs₃ hTO₂ (fun _ _ => tob_lob) tx
  refine wpAny_bind (wpAny_letGo (wpAny_pure ?_))
  refine wpAny_bind (wpAny_bind (wpAny_onRaise ?_))
  show wpAny _ _ (Builtin.SmallTypes.nextOf (.ref i2) >>= _) _ _ _
  refine wpAny_bind (wpAny_mono (Y.item k2 H y { s with heap := h₃, toks := tk₂ } _ h2₃ hy) (fun vy s₄ q => ?_) fun _ _ e => e)
  obtain ⟨h₄, tk₄, rfl, ry₄, hs₄, h2₄⟩ := q
  replace hs₄ : Heap.SameBut i2 h₃ h₄ := hs₄
  refine wpAny_pure ?_
  obtain ⟨o2, f2, e2, d2, _⟩ := Y.obj _ _ _ h2₃
  have hf2 : ∀ vs n, o2 ≠ lob vs n := fun vs n q => by rw [q] at d2; cases d2
  have h1₄ := X.same h1₃ hs₄ e2 hf2 D.i12
  have rx₄ := rx₃.same hs₄ e2 hf2 tx
  have hTO₄ : IsPair h₄ TO vx b := hs₄.extBut _ _ D.TOi2 hTO₃
  refine wpAny_bind (wpAny_seqItems hTO₄ rfl ?_)
  refine wpAny_bind (wpAny_updateSeq_pair hTO₄ fun h₅ hTO₅ hs₅ => ?_)
  replace hTO₅ : IsPair h₅ TO vx vy := hTO₅
  replace hs₅ : Heap.SameBut TO h₄ h₅ := hs₅
  have h1₅ := X.same h1₄ hs₅ hTO₄ (fun _ _ => tob_lob) D.TOi1.symm
  have h2₅ := Y.same h2₄ hs₅ hTO₄ (fun _ _ => tob_lob) D.TOi2.symm
  have rx₅ := rx₄.same hs₅ hTO₄ (fun _ _ => tob_lob) tx
  have ry₅ := ry₄.same hs₅ hTO₄ (fun _ _ => tob_lob) ty
  refine wpAny_bind (wpAny_letGo (wpAny_pure (wpAny_pure ?_)))
  refine wpAny_bind (wpAny_seqItems hTO₅ rfl ?_)
  refine wpAny_bind (wpAny_newTuple ?_)
  have hz₅ : IsZip h₅ z TI TO .ellipsis := hs₅.extBut _ _ D.TOz.symm (hs₄.extBut _ _ D.i2z.symm (hs₃.extBut _ _ D.TOz.symm (hs₂.extBut _ _ D.i1z.symm hz₁)))
  have hk₅ : ∀ c o, c ≠ z → c ≠ TO → c ≠ i1 → c ≠ i2 → s.heap.get? c = some o → h₅.get? c = some o := fun c o c1 c2 c3 c4 e =>
    hs₅.extBut _ _ c2 (hs₄.extBut _ _ c4 (hs₃.extBut _ _ c2 (hs₂.extBut _ _ c3 (hs₁.extBut _ _ c1 e))))
  have hzlt : z < h₅.objs.size := Heap.lt_size hz₅
  show wpAny _ _ (Builtin.SmallTypes.ownedTupleHandOut (.ref z) (.ref h₅.objs.size) >>= _) _ _ _
  refine wpAny_bind ?_
  unfold Builtin.SmallTypes.ownedTupleHandOut
  have hz₆ : IsZip (h₅.push { cls := .type "tuple", data := .seq #[vx, vy] }) z TI TO .ellipsis := Heap.get?_push_of_some _ hz₅
  have k₆ : ∀ b o, h₅.get? b = some o → (h₅.push { cls := .type "tuple", data := .seq #[vx, vy] }).get? b = some o := fun b o e => Heap.get?_push_of_some _ e
  generalize hh6 : h₅.push { cls := .type "tuple", data := .seq #[vx, vy] } = h₆ at hz₆ k₆
  have hT₆ : IsPair h₆ h₅.objs.size vx vy := by rw [← hh6]; exact Heap.get?_push_size _ rfl
  have h1₆ := X.keep _ _ _ H h₆ nowhere h1₅ (.keeps k₆) (fun _ _ _ q => q.elim) id
  have h2₆ := Y.keep _ _ _ H h₆ nowhere h2₅ (.keeps k₆) (fun _ _ _ q => q.elim) id
  have rx₆ := rx₅.tr' (.keeps k₆)
  have ry₆ := ry₅.tr' (.keeps k₆)
  refine wpAny_bind (wpAny_setField_rec hz₆ (by simp) fun h₇ hz₇ hs₇ => ?_)
  replace hz₇ : IsZip h₇ z TI TO (rawInt h₅.objs.size) := hz₇
  replace hs₇ : Heap.SameBut z h₆ h₇ := hs₇
  refine wpAny_setField_rec hz₇ (by simp) fun h₈ hz₈ hs₈ => ?_
  replace hz₈ : IsZip h₈ z TI TO (rawInt h₅.objs.size) := hz₈
  replace hs₈ : Heap.SameBut z h₇ h₈ := hs₈
  have up : ∀ c o, c ≠ z → h₆.get? c = some o → h₈.get? c = some o := fun c o c1 e => hs₈.extBut _ _ c1 (hs₇.extBut _ _ c1 e)
  refine wpAny_pure ⟨_, rfl, ?_⟩
  show Q (.ref h₅.objs.size) _
  exact hQ h₈ _ vx vy _ hz₈ (up _ _ D.TOz (k₆ _ _ hTO₅)) (X.same (X.same h1₆ hs₇ hz₆ (hfz · · _) D.i1z) hs₈ hz₇ (hfz · · _) D.i1z) (Y.same (Y.same h2₆ hs₇ hz₆ (hfz · · _) D.i2z) hs₈ hz₇ (hfz · · _) D.i2z)
    (up _ _ (Nat.ne_of_gt hzlt) hT₆) ((rx₆.same hs₇ hz₆ (hfz · · _) tx).same hs₈ hz₇ (hfz · · _) tx) ((ry₆.same hs₇ hz₆ (hfz · · _) ty).same hs₈ hz₇ (hfz · · _) ty)
    fun c o c1 c2 c3 c4 e => up c o c1 (k₆ _ _ (hk₅ c o c1 c2 c3 c4 e))

theorem zip_end {z TI TO i1 i2 : Addr} {k1 k2 : Nat} {xs ys : List AV} {S1 S2 : Nat → HP → Heap → Prop} (X : Src prog w A i1 xs S1) (Y : Src prog w A i2 ys S2) {a b : Value} {Q : Fin → Shared → Prop} (D : ZA z TI TO i1 i2)
    (hz : IsZip s.heap z TI TO .none) (hTI : IsPair s.heap TI (.ref i1) (.ref i2)) (hTO : IsPair s.heap TO a b)
    (h1 : S1 k1 H s.heap) (h2 : S2 k2 H s.heap) (hend : xs[k1]? = none ∨ ys[k2]? = none)
    (hE : ∀ h' tk e, (∀ c o, c ≠ z → c ≠ TO → c ≠ i1 → c ≠ i2 → s.heap.get? c = some o → h'.get? c = some o) → (∃ o, h'.get? e = some o ∧ o.cls = .type "StopIteration") → E (.ref e) { s with heap := h', toks := tk }) :
    wpAny (model prog w) A (Builtin.«zip.__next__» ⟨[.ref z], []⟩) Q E s := by
  show wpAny _ _ (field (.ref z) 2 >>= _) _ _ _
  refine wpAny_bind (wpAny_field hz rfl (x := .bool false) rfl ?_)
  show wpAny _ _ (field (.ref z) 3 >>= _) _ _ _
  refine wpAny_bind (wpAny_field hz rfl (x := .ref TI) rfl ?_)
  refine wpAny_bind (wpAny_seqItems hTI rfl ?_)
  show wpAny _ _ (Builtin.SmallTypes.ownedTupleIsFree (.ref z) >>= _) _ _ _
  refine wpAny_bind ?_
  unfold Builtin.SmallTypes.ownedTupleIsFree
  refine wpAny_bind (wpAny_field hz rfl (x := .none) rfl (wpAny_pure ?_))
  simp only [if_true]
  refine wpAny_bind (wpAny_rule ?_)
  refine wpAny_bind (wpAny_field hz rfl (x := .ref TO) rfl ?_)
  refine wpAny_bind (wpAny_setField_rec hz (by simp) fun h₁ hz₁ hs₁ => ?_)
  replace hz₁ : IsZip h₁ z TI TO .ellipsis := hz₁
  have hfz : ∀ vs n (x : Value), ({ cls := .type "zip", dict := none, data := .fields #[x, .bool false, .bool false, .ref TI, .ref TO], slots := #[] } : Obj) ≠ lob vs n := fun vs n x q => by have := congrArg Obj.data q; simp [lob] at this
  have h1₁ := X.same (H := H) h1 hs₁ hz (hfz · · _) D.i1z
  have h2₁ := Y.same (H := H) h2 hs₁ hz (hfz · · _) D.i2z
  refine wpAny_bind ?_
  simp only [List.zipIdx_cons, List.zipIdx_nil, List.forIn_cons, List.forIn_nil]
  refine wpAny_bind (wpAny_bind (wpAny_onRaise ?_))
  show wpAny _ _ (Builtin.SmallTypes.nextOf (.ref i1) >>= _) _ _ _
  cases hx : xs[k1]? with
  | none =>
    refine wpAny_bind (X.done k1 H { s with heap := h₁ } _ _ h1₁ hx fun h₂ e hs₂ he => ?_)
    obtain ⟨oe, hoe, hce⟩ := he
    have hz₂ : IsZip h₂ z TI TO .ellipsis := hs₂ _ _ D.i1z.symm hz₁
    have hez : e ≠ z := fun x => by subst x; rw [hz₂] at hoe; cases hoe; simp at hce
    refine wpAny_setField_rec hz₂ (by simp) fun h₃ _ hs₃ => hE h₃ _ e (fun c o c1 _ c3 _ x => hs₃.extBut _ _ c1 (hs₂ _ _ c3 (hs₁.extBut _ _ c1 x))) ⟨oe, hs₃.extBut _ _ hez hoe, hce⟩
  | some x =>
    have hy : ys[k2]? = none := by rcases hend with h | h; rw [hx] at h; cases h; exact h
    have tx := tfs_get X.tf hx
    refine wpAny_bind (wpAny_mono (X.item k1 H x { s with heap := h₁ } _ h1₁ hx) (fun vx s₂ q => ?_) fun _ _ e => e)
    obtain ⟨h₂, tk₂, rfl, rx₂, hs₂, h1₂⟩ := q
    replace hs₂ : Heap.SameBut i1 h₁ h₂ := hs₂
    refine wpAny_pure ?_
    obtain ⟨o1, f1, e1, d1, _⟩ := X.obj _ _ _ h1₁
    have hf1 : ∀ vs n, o1 ≠ lob vs n := fun vs n q => by rw [q] at d1; cases d1
    have h2₂ := Y.same h2₁ hs₂ e1 hf1 D.i12.symm
    have hTO₂ : IsPair h₂ TO a b := hs₂.extBut _ _ D.TOi1 (hs₁.extBut _ _ D.TOz hTO)
    refine wpAny_bind (wpAny_seqItems hTO₂ rfl ?_)
    refine wpAny_bind (wpAny_updateSeq_pair hTO₂ fun h₃ hTO₃ hs₃ => ?_)
    replace hs₃ : Heap.SameBut TO h₂ h₃ := hs₃
    have h2₃ := Y.same h2₂ hs₃ hTO₂ (fun _ _ => tob_lob) D.TOi2.symm
    refine wpAny_bind (wpAny_letGo (wpAny_pure ?_))
    refine wpAny_bind (wpAny_bind (wpAny_onRaise ?_))
    show wpAny _ _ (Builtin.SmallTypes.nextOf (.ref i2) >>= _) _ _ _
    refine wpAny_bind (Y.done k2 H { s with heap := h₃, toks := tk₂ } _ _ h2₃ hy fun h₄ e hs₄ he => ?_)
    obtain ⟨oe, hoe, hce⟩ := he
    have hz₄ : IsZip h₄ z TI TO .ellipsis := hs₄ _ _ D.i2z.symm (hs₃.extBut _ _ D.TOz.symm (hs₂.extBut _ _ D.i1z.symm hz₁))
    have hez : e ≠ z := fun x => by subst x; rw [hz₄] at hoe; cases hoe; simp at hce
    refine wpAny_setField_rec hz₄ (by simp) fun h₅ _ hs₅ => hE h₅ _ e (fun c o c1 c2 c3 c4 x => hs₅.extBut _ _ c1 (hs₄ _ _ c4 (hs₃.extBut _ _ c2 (hs₂.extBut _ _ c3 (hs₁.extBut _ _ c1 x))))) ⟨oe, hs₅.extBut _ _ hez hoe, hce⟩

noncomputable abbrev at4 (z TO i1 i2 : Addr) : Addr → Prop := fun b => b = z ∨ b = TO ∨ b = i1 ∨ b = i2
noncomputable def zipd (xs ys : List AV) : List AV := (xs.zip ys).map fun p => AV.tup [p.1, p.2]
theorem zipd_get {xs ys : List AV} {i : Nat} {a : AV} (h : (zipd xs ys)[i]? = some a) : ∃ x y, xs[i]? = some x ∧ ys[i]? = some y ∧ a = .tup [x, y] := by
  simp only [zipd, List.getElem?_map, Option.map_eq_some_iff, List.getElem?_zip_eq_some] at h
  obtain ⟨p, ⟨h1, h2⟩, rfl⟩ := h
  exact ⟨_, _, h1, h2, rfl⟩
theorem zipd_none {xs ys : List AV} {i : Nat} (h : (zipd xs ys)[i]? = none) : xs[i]? = none ∨ ys[i]? = none := by
  rw [List.getElem?_eq_none_iff, zipd, List.length_map, List.length_zip] at h
  simp only [List.getElem?_eq_none_iff]
  omega
theorem Wk.zip {B : GB} {elts : List Expr} {k : Nat} {tpos : Pos} (hh : A.handled = none) {xs ys : List AV} {z TI TO i1 i2 : Addr} {S1 S2 : Nat → HP → Heap → Prop} (X : Src prog w A.in1 i1 xs S1) (Y : Src prog w A.in1 i2 ys S2) (D : ZA z TI TO i1 i2) :
    Wk prog w B A (.ref z) (.Tuple elts k tpos) (at4 z TO i1 i2) true (fun H => some (zipd xs ys)) (fun i H h => IsZip h z TI TO .none ∧ IsPair h TI (.ref i1) (.ref i2) ∧ (∃ a b, IsPair h TO a b) ∧ S1 i H h ∧ S2 i H h)
      (fun i H h v => (∃ T : Addr, v = .ref T ∧ IsZip h z TI TO (rawInt T)) ∧ IsPair h TI (.ref i1) (.ref i2) ∧ (∃ a b, IsPair h TO a b) ∧ S1 (i + 1) H h ∧ S2 (i + 1) H h) where
  shape := fun i H h st => by
    obtain ⟨hz, hTI, ⟨a, b, hTO⟩, h1, h2⟩ := st
    obtain ⟨o1, f1, e1, d1, _, g1⟩ := X.obj _ _ _ h1
    obtain ⟨o2, f2, e2, d2, _, g2⟩ := Y.obj _ _ _ h2
    intro c o hc q
    rcases hc with rfl | rfl | rfl | rfl
    · rw [hz] at q; cases q; exact .inl ⟨_, rfl, by intro id v h; simp at h⟩
    · rw [hTO] at q; cases q; exact .inr ⟨rfl, _, _, rfl⟩
    · rw [e1] at q; cases q; exact .inl ⟨_, d1, g1⟩
    · rw [e2] at q; cases q; exact .inl ⟨_, d2, g2⟩
  keep := fun i H h H' h' W st x pl hW => by
    obtain ⟨hz, hTI, ⟨a, b, hTO⟩, h1, h2⟩ := st
    have sf : Softly W h := fun b vs n hb e => (pl b _ hb e).1 vs n rfl
    have tupk : ∀ {T a b}, IsPair h T a b → IsPair h' T a b := fun {T a b} e => (x.other (fun q => (pl T _ q e).1 _ _ rfl) e (by intro vs n; exact tob_lob)).exact (by simp)
    exact ⟨x.fields (hW z (.inl rfl)) hz rfl (by simp), tupk hTI, ⟨a, b, tupk hTO⟩, X.keep _ _ _ _ _ _ h1 x sf (hW i1 (.inr (.inr (.inl rfl)))), Y.keep _ _ _ _ _ _ h2 x sf (hW i2 (.inr (.inr (.inr rfl))))⟩
  item := fun i H xs' x' s E st hr hs hx => by
    obtain ⟨hz, hTI, ⟨a, b, hTO⟩, h1, h2⟩ := st
    cases hs
    obtain ⟨x, y, hx1, hy1, rfl⟩ := zipd_get hx
    have hT : s.TypeIs (.ref z) "zip" := ⟨_, hz, rfl⟩
    unfold pyNext
    refine wpAny_bind (wpAny_attempt (wpAny_callSpecial?_slot (name := Str.ofString "__next__") hT F.slot_zip_next
      (wpAny_call_entry F.slot_zip_next hT F.entry_zip_next
        (zip_item X Y D hz hTI hTO h1 h2 hx1 hy1 fun h' tk vx vy T a1 a2 a3 a4 a5 a6 a7 a8 => wpAny_pure ?_) (F.args_zip_next_1 _))))
    refine ⟨_, h', tk, rfl, rfl, .tup (vs := #[vx, vy]) (n := 0) a5 (.cons a6 (.cons a7 .nil)), fun c o hc q => a8 c o (fun z => hc (.inl z)) (fun z => hc (.inr (.inl z))) (fun z => hc (.inr (.inr (.inl z)))) (fun z => hc (.inr (.inr (.inr z)))) q,
      ⟨T, rfl, a1⟩, a8 _ _ D.TIz D.TITO D.TIi1 D.TIi2 hTI, ⟨_, _, a2⟩, a3, a4⟩
  go := fun i H s v E mid => by
    obtain ⟨⟨T, rfl, hz⟩, hTI, ⟨a, b, hTO⟩, h1, h2⟩ := mid
    refine wpAny_letOwnedTupleGo_zip hz fun h' hz' hs' => ?_
    have hfz : ∀ vs n (x : Value), ({ cls := .type "zip", dict := none, data := .fields #[x, .bool false, .bool false, .ref TI, .ref TO], slots := #[] } : Obj) ≠ lob vs n := fun vs n x q => by have := congrArg Obj.data q; simp [lob] at this
    exact ⟨h', s.toks, atI z, rfl, fun b hb => .inl hb, shape_one hz rfl, sameBut_keep hs', hz', hs'.extBut _ _ D.TIz hTI, ⟨a, b, hs'.extBut _ _ D.TOz hTO⟩, X.same h1 hs' hz (hfz · · _) D.i1z, Y.same h2 hs' hz (hfz · · _) D.i2z⟩
  done := fun i H xs' s E st hr hs hx => by
    obtain ⟨hz, hTI, ⟨a, b, hTO⟩, h1, h2⟩ := st
    cases hs
    have hT : s.TypeIs (.ref z) "zip" := ⟨_, hz, rfl⟩
    unfold pyNext
    refine wpAny_bind (wpAny_attempt (wpAny_callSpecial?_slot (name := Str.ofString "__next__") hT F.slot_zip_next
      (wpAny_call_entry F.slot_zip_next hT F.entry_zip_next (zip_end X Y D hz hTI hTO h1 h2 (zipd_none hx) fun h' tk e hk he => ?_) (F.args_zip_next_1 _))))
    obtain ⟨o, ho, hc⟩ := he
    refine wpAny_bind (wpAny_isInstance (T := "StopIteration") (b := true) ⟨o, ho, hc⟩ isSubtype_stop ?_)
    exact wpAny_pure ⟨h', tk, rfl, rfl, fun c o hc q => hk c o (fun z => hc (.inl z)) (fun z => hc (.inr (.inl z))) (fun z => hc (.inr (.inr (.inl z)))) (fun z => hc (.inr (.inr (.inr z)))) q⟩
  self := fun i H s Q E st hQ => wpAny_pyIter_zip st.1 hQ

theorem tfs_signs (x : Str) : tfs (signs x) = true := by
  unfold signs
  generalize x.cps.toList = l
  induction l with
  | nil => rfl
  | cons c l ih => simp [tfs, tf, ih]
theorem Src.str (hh : A.handled = none) (I : Addr) (x : Str) (t : Tok) : Src prog w A I (signs x) (fun i H h => h.IsStrIter I (strIterType x) x t i) where
  tf := tfs_signs x
  obj := fun i H h st => by
    obtain ⟨o, e, c, d⟩ := st
    exact ⟨o, _, e, d, by rw [c]; rcases strIter_cases x with q | q <;> rw [q] <;> simp, by intro id v h; simp at h⟩
  keep := fun i H h H' h' W st x' sf hW => by
    obtain ⟨o, e, c, d⟩ := st
    exact ⟨o, x'.fields hW e d (by rw [c]; rcases strIter_cases x with q | q <;> rw [q] <;> simp), c, d⟩
  item := fun i H a s E st hx => by
    obtain ⟨c, hc, rfl⟩ := signs_get hx
    rcases strIter_cases x with q | q
    · simp only [q] at st ⊢
      exact wpAny_nextOf_ascii_item st hc fun h' hit hs' => ⟨h', _, rfl, .str .., hs', hit⟩
    · simp only [q] at st ⊢
      exact wpAny_nextOf_wide_item st hc fun h' hit hs' => ⟨h', _, rfl, .str .., hs', hit⟩
  done := fun i H s Q E st hx hE => by
    have hc := signs_none hx
    rcases strIter_cases x with q | q
    · simp only [q] at st
      exact wpAny_nextOf_ascii_end hh st hc hE
    · simp only [q] at st
      exact wpAny_nextOf_wide_end hh st hc hE
theorem Src.list (hh : A.handled = none) (I a : Addr) (xs : List AV) (ht : tfs xs = true) : Src prog w A I xs (fun i H h => h.IsListIter I a i ∧ VR H h (.lst xs) (.ref a)) where
  tf := ht
  obj := fun i H h st => by
    obtain ⟨⟨o, e, c, d⟩, _⟩ := st
    exact ⟨o, _, e, d, by rw [c]; simp, by intro id v h; simp at h⟩
  keep := fun i H h H' h' W st x' sf hW => by
    obtain ⟨⟨o, e, c, d⟩, r⟩ := st
    exact ⟨⟨o, x'.fields hW e d (by rw [c]; simp), c, d⟩, r.trS x' sf (by simpa [Mine.tf] using ht)⟩
  item := fun i H x s E st hx => by
    obtain ⟨a', vs, n, ea, k, e, rs⟩ := st.2.lstInv
    cases ea
    obtain ⟨v, hv, rv⟩ := rs.get hx
    obtain ⟨o, ei, c, d⟩ := id st.1
    have hne : ∀ vs n, o ≠ lob vs n := fun vs n q => by rw [q] at d; cases d
    refine wpAny_nextOf_list_item st.1 (isList_of e) (x := v) (by simpa using hv) fun h' hit hs' => ⟨h', _, rfl, rv.same hs' ei hne (tfs_get ht hx), hs', hit, st.2.same hs' ei hne (by simpa [Mine.tf] using ht)⟩
  done := fun i H s Q E st hx hE => by
    obtain ⟨a', vs, n, ea, k, e, rs⟩ := st.2.lstInv
    cases ea
    have : vs[i]? = none := by
      have := List.getElem?_eq_none_iff.mp hx
      rw [Array.getElem?_eq_none_iff, rs.size]; exact this
    exact wpAny_nextOf_list_end hh st.1 (isList_of e) this hE
end
end Mine
namespace Mine
open PySem PySem.Calls

noncomputable abbrev strIt (x : Str) (t : Tok) : Obj := { cls := .type (strIterType x), data := .fields #[.str x t, .int 0 0] }
noncomputable abbrev zs1 (h : Heap) (o : Obj) : Heap := h.push o
noncomputable abbrev zs2 (h : Heap) (o p : Obj) : Heap := (zs1 h o).push p
noncomputable abbrev zs3 (h : Heap) (o p : Obj) : Heap := (zs2 h o p).push { cls := .type "tuple", data := .seq #[.ref h.objs.size, .ref (zs1 h o).objs.size] }
noncomputable abbrev zs4 (h : Heap) (o p : Obj) : Heap := (zs3 h o p).push { cls := .type "tuple", data := .seq #[.none, .none] }
noncomputable abbrev zs5 (h : Heap) (o p : Obj) : Heap := (zs4 h o p).push { cls := .type "zip", data := .fields #[.none, .bool false, .bool false, .ref (zs2 h o p).objs.size, .ref (zs3 h o p).objs.size] }
theorem meets_zip_newS (x y : Str) (t u : Tok) :
    Meets (Builtin.«zip.__new__» ⟨[.type "zip", .str x t, .str y u], []⟩) (fun _ R s =>
      R (.ok (.ret (.ref (zs4 s.heap (strIt x t) (strIt y u)).objs.size))) { s with heap := zs5 s.heap (strIt x t) (strIt y u) }) :=
  .of_wp fun prog w A R s h => by
    obtain ⟨hp, g, d, tk, os⟩ := s
    have hsub := sub_zip
    wp_walk using wpAny_pyIter_strU
    exact ⟨_, rfl, h⟩
theorem za_new {n : Nat} : ZA (n + 4) (n + 2) (n + 3) n (n + 1) where
  TIz := fun h => by have h' : (n + 2 : Nat) = n + 4 := h; omega
  TOz := fun h => by have h' : (n + 3 : Nat) = n + 4 := h; omega
  i1z := fun h => by have h' : (n : Nat) = n + 4 := h; omega
  i2z := fun h => by have h' : (n + 1 : Nat) = n + 4 := h; omega
  TITO := fun h => by have h' : (n + 2 : Nat) = n + 3 := h; omega
  TIi1 := fun h => by have h' : (n + 2 : Nat) = n := h; omega
  TIi2 := fun h => by have h' : (n + 2 : Nat) = n + 1 := h; omega
  TOi1 := fun h => by have h' : (n + 3 : Nat) = n := h; omega
  TOi2 := fun h => by have h' : (n + 3 : Nat) = n + 1 := h; omega
  i12 := fun h => by have h' : (n : Nat) = n + 1 := h; omega

section
variable {prog : Program} {w : World} {B : GB} {A : Around} {H : HP} {P : (HP → Option (List AV)) → HP → Prop}
theorem fresh_of {h : Heap} {n b : Nat} (hn : h.objs.size = n) (hb : n ≤ b) : h.get? b = none := by
  cases q : h.get? b with
  | none => rfl
  | some o => have := Heap.lt_size q; rw [hn] at this; exact absurd this (Nat.not_lt.mpr hb)
theorem zip_start {E : Value → Shared → Prop} {elts : List Expr} {k : Nat} {tpos : Pos} (hh : A.handled = none) {xs ys : List AV} {s : Shared} {o p : Obj} {S1 S2 : Nat → HP → Heap → Prop} (hr : HR B H s.heap)
    (X : Src prog w A.in1 s.heap.objs.size xs S1) (Y : Src prog w A.in1 (s.heap.objs.size + 1) ys S2) (p₀ : P (fun _ => some (zipd xs ys)) H)
    (k₁ : ∀ h', (∀ b ob, s.heap.get? b = some ob → h'.get? b = some ob) → h'.get? s.heap.objs.size = some o → h'.get? (s.heap.objs.size + 1) = some p → S1 0 H h' ∧ S2 0 H h') (ho : o.isFreed = false) (hp : p.isFreed = false) :
    wpAny (model prog w) A (pyIter (.ref (zs4 s.heap o p).objs.size)) (IPost prog w B A (.Tuple elts k tpos) true s H P) E { s with heap := zs5 s.heap o p } := by
  generalize hn : s.heap.objs.size = n at *
  have z1 : (zs1 s.heap o).objs.size = n + 1 := by rw [Heap.size_push, hn]
  have z2 : (zs2 s.heap o p).objs.size = n + 2 := by rw [Heap.size_push, z1]
  have z3 : (zs3 s.heap o p).objs.size = n + 3 := by rw [Heap.size_push, z2]
  have z4 : (zs4 s.heap o p).objs.size = n + 4 := by rw [Heap.size_push, z3]
  have g5 : (zs5 s.heap o p).get? (zs4 s.heap o p).objs.size = some _ := Heap.get?_push_size _ rfl
  have g4 : (zs5 s.heap o p).get? (zs3 s.heap o p).objs.size = some _ := Heap.get?_push_of_some _ (Heap.get?_push_size _ rfl)
  have g3 : (zs5 s.heap o p).get? (zs2 s.heap o p).objs.size = some _ := Heap.get?_push_of_some _ (Heap.get?_push_of_some _ (Heap.get?_push_size _ rfl))
  have g2 : (zs5 s.heap o p).get? (zs1 s.heap o).objs.size = some p := Heap.get?_push_of_some _ (Heap.get?_push_of_some _ (Heap.get?_push_of_some _ (Heap.get?_push_size _ hp)))
  have g1 : (zs5 s.heap o p).get? s.heap.objs.size = some o := Heap.get?_push_of_some _ (Heap.get?_push_of_some _ (Heap.get?_push_of_some _ (Heap.get?_push_of_some _ (Heap.get?_push_size _ ho))))
  have kp : ∀ c ob, s.heap.get? c = some ob → (zs5 s.heap o p).get? c = some ob := fun c ob x => Heap.get?_push_of_some _ (Heap.get?_push_of_some _ (Heap.get?_push_of_some _ (Heap.get?_push_of_some _ (Heap.get?_push_of_some _ x))))
  rw [z2, z3, z4] at g5
  rw [z1, z2, hn] at g3
  rw [z3] at g4
  rw [z1] at g2
  rw [hn] at g1
  rw [z4]
  have hz : IsZip (zs5 s.heap o p) (n + 4) (n + 2) (n + 3) .none := g5
  refine wpAny_pyIter_zip hz ?_
  obtain ⟨s1, s2⟩ := k₁ _ kp g1 g2
  refine ⟨H, _, s.toks, at4 (n + 4) (n + 3) n (n + 1), _, _, _, rfl, p₀, Wk.zip hh X Y za_new, ⟨hz, g3, ⟨_, _, g4⟩, s1, s2⟩, fun b hb => fresh_of hn ?_, hr.keeps kp, .keeps kp⟩
  rcases hb with rfl | rfl | rfl | rfl <;> omega
theorem opi_zipStr {elts : List Expr} {k : Nat} {tpos : Pos} {x y : Str} (hh : A.handled = none) (p : P (fun _ => some (zipd (signs x) (signs y))) H) : OPI prog w B A "zip" (.Tuple elts k tpos) true [.str x, .str y] H P := .mk fun s E vs hr r => by
  obtain ⟨v, u, rfl, r1, r2⟩ := r.two
  cases r1 with
  | str _ t => cases r2 with
    | str _ u =>
      refine callType_new F.called_zip (by decide) (F.typeCall_zip_2 _ _) (F.newCall_zip_2 _ _) (fun obj => F.args_object_init_3 obj _ _) F.entry_zip_new (meets_zip_newS x y t u) ⟨⟨_, Heap.get?_push_size _ rfl, rfl⟩, ?_⟩
      exact zip_start hh hr (Src.str (A := A.in1) hh _ x t) (Src.str (A := A.in1) hh _ y u) p (fun h' _ e1 e2 => ⟨⟨_, e1, rfl, rfl⟩, ⟨_, e2, rfl, rfl⟩⟩) rfl rfl
theorem opi_zipLst {elts : List Expr} {k : Nat} {tpos : Pos} {xs ys : List AV} (hh : A.handled = none) (hx : tfs xs = true) (hy : tfs ys = true) (p : P (fun _ => some (zipd xs ys)) H) : OPI prog w B A "zip" (.Tuple elts k tpos) true [.lst xs, .lst ys] H P := .mk fun s E vs hr r => by
  obtain ⟨v, u, rfl, r1, r2⟩ := r.two
  obtain ⟨a, vs, n, rfl, ka, e, rs⟩ := id r1.lstInv
  obtain ⟨b, us, m, rfl, kb, e', rs'⟩ := id r2.lstInv
  refine callType_new F.called_zip (by decide) (F.typeCall_zip_2 _ _) (F.newCall_zip_2 _ _) (fun obj => F.args_object_init_3 obj _ _) F.entry_zip_new (meets_zip_new a b vs us) ⟨isList_of e, isList_of e', ⟨_, Heap.get?_push_size _ rfl, rfl⟩, ?_⟩
  exact zip_start (o := { cls := .type "list_iterator", data := .fields #[.ref a, .int 0 0] }) (p := { cls := .type "list_iterator", data := .fields #[.ref b, .int 0 0] }) hh hr (Src.list (A := A.in1) hh _ a xs hx) (Src.list (A := A.in1) hh _ b ys hy) p
    (fun h' kp e1 e2 => ⟨⟨⟨_, e1, rfl, rfl⟩, r1.tr' (.keeps kp)⟩, ⟨⟨_, e2, rfl, rfl⟩, r2.tr' (.keeps kp)⟩⟩) rfl rfl
end
end Mine
namespace Mine
open PySem PySem.Calls PyProof.Rows

section
variable {prog : Program} {w : World} {A : Around} {E : Value → Shared → Prop} {s : Shared} {env : Env}
theorem subs_core {value slice : Expr} {pos : Pos} {T id : String} {Q : Value → Shared → Prop} (hl : typeLookup (.type T) "__getitem__" = pure (some (.builtin id)))
    (h : wpAny (model prog w) A (eval value env) (fun o s₁ => wpAny (model prog w) A (eval slice env) (fun i s₂ => s₂.TypeIs o T ∧ wpAny (model prog w) A (getItem o i) Q E s₂) E s₁) E s)
    (hsl : ∀ o i, ∃ ops, subscripted slice false o i = operate ops (getItem o i) := by exact fun o i => ⟨_, rfl⟩) :
    wpAny (model prog w) A (eval (.Subscript value slice pos) env) Q E s := by
  rw [eval_Subscript]
  refine wpAny_bind (wpAny_mono h (fun o s₁ h₁ => wpAny_bind (wpAny_holding (wpAny_mono h₁ (fun i s₂ h₂ => wpAny_bind (wpAny_standAt ?_)) fun _ _ x => x)))
    fun _ _ x => x)
  refine wpAny_bind ?_
  rw [getitemInPython_of_ne h₂.1.not_modules]
  refine wpAny_bind (wpAny_specialOf h₂.1 hl ?_)
  obtain ⟨ops, he⟩ := hsl o i
  have fin : wpAny (model prog w) A (subscripted slice false o i) (fun r s₃ => wpAny (model prog w) A (letTemporaryGo value o r >>= fun _ => pure r) Q E s₃) E s₂ := by
    rw [he]
    exact wpAny_operating (wpAny_mono h₂.2 (fun r s₃ h₃ => wpAny_bind (wpAny_letTemporaryGo (wpAny_pure h₃))) fun _ _ x => x)
  first
    | exact wpAny_pure (wpAny_bind fin)
    | exact wpAny_bind (wpAny_pure (wpAny_bind fin))
    | exact wpAny_bind fin
end

section
variable {prog : Program} {w : World} {B : GB} {A : Around} {env : Env} {l : Loc} {H : HP} {P : AV → HP → Prop}
noncomputable abbrev KIt2 (prog : Program) (w : World) (B : GB) (A : Around) (T : String) (P : AV → HP → Prop) (o i : AV) (H₂ : HP) : Prop := IsT B H₂ o T ∧ OP prog w B A H₂ [o, i] (bin getItem) P
noncomputable abbrev KIt (prog : Program) (w : World) (B : GB) (A : Around) (env : Env) (l : Loc) (slice : Expr) (T : String) (P : AV → HP → Prop) (o : AV) (H₁ : HP) : Prop := EX prog w B A env l slice H₁ (KIt2 prog w B A T P o)
theorem ex_item {value slice : Expr} {pos : Pos} {T id : String} (hl : typeLookup (.type T) "__getitem__" = pure (some (.builtin id)))
    (h : EX prog w B A env l value H (KIt prog w B A env l slice T P))
    (hsl : ∀ o i, ∃ ops, subscripted slice false o i = operate ops (getItem o i) := by exact fun o i => ⟨_, rfl⟩) : EX prog w B A env l (.Subscript value slice pos) H P := .mk fun s E hr F =>
  subs_core hl (use (h.run s E hr F) fun o v H₁ h₁ tk₁ p r hr₁ t₁ => use (p.run _ E hr₁ (F.tr t₁)) fun i u H₂ h₂ tk₂ p₂ r₂ hr₂ t₂ =>
    ⟨(p₂.1 _ v hr₂ (r.tr' t₂)).1, back (t₁.trans' t₂) (p₂.2.run _ E [v, u] hr₂ (.cons (r.tr' t₂) (.cons r₂ .nil)))⟩) hsl
theorem item_str : typeLookup (.type "str") "__getitem__" = pure (some (.builtin "str.__getitem__")) := F.slot_str_getitem.lookup
theorem item_list : typeLookup (.type "list") "__getitem__" = pure (some (.builtin "list.__getitem__")) := slot_list_getitem.lookup
theorem item_tuple : typeLookup (.type "tuple") "__getitem__" = pure (some (.builtin "tuple.__getitem__")) := F.slot_tuple_getitem.lookup

theorem op_itemS {x : Str} {i : Int} {c : Nat} (h0 : 0 ≤ i) (hc : x.cps[i.toNat]? = some c) (hsz : x.length ≤ 1000) (p : P (.str ⟨#[c]⟩) H) : OP prog w B A H [.str x, .int i] (bin getItem) P := op2 fun s E v u hr r r' => by
  (first | obtain ⟨_, rfl⟩ := r.sh | obtain rfl := r.sh); (first | obtain ⟨_, rfl⟩ := r'.sh | obtain rfl := r'.sh)
  have hlt : i.toNat < x.length := (Array.getElem?_eq_some_iff.mp hc).1
  refine PyProof.Rows.getItem_str (c := c) ?_ ?_ (.tok p (.str ..) hr)
  · simp only [Bool.or_eq_false_iff, decide_eq_false_iff_not]; omega
  · rw [seqIndex_of h0 (by omega)]; exact hc
theorem op_itemL {av : AV} {xs : List AV} {i : Int} {a : AV} (hl : isL av = true) (hs : seqOf av H = some xs) (h0 : 0 ≤ i) (hsz : i ≤ 100000) (ha : xs[i.toNat]? = some a) (p : P a H) : OP prog w B A H [av, .int i] (bin getItem) P := op2 fun s E v u hr r r' => by
  obtain ⟨b, vs, n, rfl, e, rs⟩ := listAt hl r hr hs
  (first | obtain ⟨_, rfl⟩ := r'.sh | obtain rfl := r'.sh)
  obtain ⟨v, hv, rv⟩ := rs.get ha
  exact wpAny_getItem_list (isList_of e) h0 (by omega) (x := v) (by simpa using hv) (.here p rv hr)
theorem op_itemT {xs : List AV} {i : Int} {a : AV} (h0 : 0 ≤ i) (hsz : i ≤ 100000) (ha : xs[i.toNat]? = some a) (p : P a H) : OP prog w B A H [.tup xs, .int i] (bin getItem) P := op2 fun s E v u hr r r' => by
  obtain ⟨b, vs, n, rfl, e, rs⟩ := r.tupInv
  (first | obtain ⟨_, rfl⟩ := r'.sh | obtain rfl := r'.sh)
  obtain ⟨v, hv, rv⟩ := rs.get ha
  have hlt : i.toNat < vs.size := by rw [rs.size]; exact (List.getElem?_eq_some_iff.mp ha).1
  exact PySem.P.getItem_tuple (n := n) (k := i.toNat) e (by omega) (by omega) (seqIndex_of h0 (by omega)) (y := v) (by simpa using hv) (.here p rv hr)

noncomputable def pick (xs : List AV) (lo hi st : Option Int) : List AV := (sliceRange (sliceBounds lo hi st xs.length).1 (sliceBounds lo hi st xs.length).2.1 (sliceBounds lo hi st xs.length).2.2).filterMap (xs[·]?)
theorem VRs.pick {h : Heap} {xs : List AV} {vs : Array Value} (r : VRs H h xs vs.toList) (lo hi st : Option Int) : VRs H h (pick xs lo hi st) (slicePick vs lo hi st).toList := by
  unfold Mine.pick slicePick
  rw [r.size]
  generalize sliceRange _ _ _ = idx
  rw [List.toList_toArray]
  induction idx with
  | nil => exact .nil
  | cons i idx ih =>
    simp only [List.filterMap_cons]
    cases hx : xs[i]? with
    | none =>
      have : vs[i]? = none := by
        have := List.getElem?_eq_none_iff.mp hx
        rw [Array.getElem?_eq_none_iff, r.size]; exact this
      rw [this]; exact ih
    | some a =>
      obtain ⟨v, hv, rv⟩ := r.get hx
      rw [show vs[i]? = some v by simpa using hv]
      exact .cons rv ih
structure EO (prog : Program) (w : World) (B : GB) (A : Around) (env : Env) (l : Loc) (e : Option Expr) (H : HP) (P : Option Int → HP → Prop) : Prop where
  run : ∀ (s : Shared) (E : Value → Shared → Prop), HR B H s.heap → FR H env l s.heap → wpAny (model prog w) A (evalPart e env) (fun v s' => ∃ i H' h' tk, s' = { s with heap := h', toks := tk } ∧ IsPart v i ∧ P i H' ∧ HR B H' h' ∧ Tr nowhere H s.heap H' h') E s
theorem eo_none {P : Option Int → HP → Prop} (p : P none H) : EO prog w B A env l none H P := .mk fun s E hr F => wpAny_pure ⟨none, H, s.heap, s.toks, rfl, .none, p, hr, .refl ..⟩
theorem eo_some {P : Option Int → HP → Prop} {e : Expr} (h : EX prog w B A env l e H fun a H₁ => ∃ i, a = .int i ∧ P (some i) H₁) : EO prog w B A env l (some e) H P := .mk fun s E hr F =>
  use (h.run s E hr F) fun a v H₁ h₁ tk₁ p r hr₁ t₁ => by
    obtain ⟨i, rfl, p⟩ := p
    (first | obtain ⟨_, rfl⟩ := r.sh | obtain rfl := r.sh)
    exact ⟨some i, H₁, h₁, tk₁, rfl, .int .., p, hr₁, t₁⟩
theorem ex_slice {value : Expr} {lower upper step : Option Expr} {p pos : Pos}
    (h : EX prog w B A env l value H fun av H₁ => isL av = true ∧ EO prog w B A env l lower H₁ fun lo H₂ => EO prog w B A env l upper H₂ fun hi H₃ => EO prog w B A env l step H₃ fun st H₄ =>
      st ≠ some 0 ∧ ∃ xs, seqOf av H₄ = some xs ∧ xs.length ≤ 1000 ∧ P (.lst (pick xs lo hi st)) H₄)
    (hsl : ∀ o i, ∃ ops, subscripted (.Slice lower upper step p) false o i = operate ops (getItem o i) := by exact fun o i => ⟨_, rfl⟩) :
    EX prog w B A env l (.Subscript value (.Slice lower upper step p) pos) H P := .mk fun s E hr F => by
  refine subs_core item_list (use (h.run s E hr F) fun av v H₁ h₁ tk₁ p r hr₁ t₁ => ?_) hsl
  refine wpAny_Slice (wpAny_mono (p.2.run { s with heap := h₁, toks := tk₁ } _ hr₁ (F.tr t₁)) (fun vl s₂ q => ?_) fun _ _ e => e)
  obtain ⟨lo, H₂, h₂, tk₂, rfl, pl, p₂, hr₂, t₂⟩ := q
  refine wpAny_mono (p₂.run { s with heap := h₂, toks := tk₂ } _ hr₂ ((F.tr t₁).tr t₂)) (fun vu s₃ q => ?_) fun _ _ e => e
  obtain ⟨hi, H₃, h₃, tk₃, rfl, pu, p₃, hr₃, t₃⟩ := q
  refine wpAny_mono (p₃.run { s with heap := h₃, toks := tk₃ } _ hr₃ (((F.tr t₁).tr t₂).tr t₃)) (fun vs s₄ q => ?_) fun _ _ e => e
  obtain ⟨st, H₄, h₄, tk₄, rfl, ps, ⟨h0, xs, hseq, hlen, p₄⟩, hr₄, t₄⟩ := q
  have r₄ := ((r.tr' t₂).tr' t₃).tr' t₄
  obtain ⟨a, us, n, rfl, e, rs⟩ := listAt p.1 r₄ hr₄ hseq
  have kp : ∀ b o, h₄.get? b = some o → (h₄.push { cls := .type "slice", data := .fields #[vl, vu, vs] }).get? b = some o := fun b o e => Heap.get?_push_of_some _ e
  refine ⟨⟨_, kp _ _ e, rfl⟩, wpAny_getItem_list_slice (isList_of (kp _ _ e)) (Heap.IsSliceOf.new ..) pl pu ps h0 ?_ (by rw [rs.size, sizeLine_eq]; omega)⟩
  have hr₅ := hr₄.keeps kp
  have kp' : ∀ b o, (h₄.push { cls := .type "slice", data := .fields #[vl, vu, vs] }).get? b = some o → ((h₄.push { cls := .type "slice", data := .fields #[vl, vu, vs] }).push (lob (slicePick us lo hi st) 0)).get? b = some o := fun b o e => Heap.get?_push_of_some _ e
  exact ⟨.lst (pick xs lo hi st), H₄, _, _, rfl, p₄, VR.pushLst hr₅ ((rs.tr' (.keeps kp)).pick lo hi st), hr₅.keeps kp', (((t₁.trans' t₂).trans' t₃).trans' t₄).trans' ((Tr.keeps kp).trans' (.keeps kp'))⟩
end
end Mine
namespace Mine
open PySem PySem.Calls PyProof.Rows PySem.Spec

noncomputable abbrev txts (ss : List Str) : List AV := ss.map AV.str
theorem VRs.strsAre {H : HP} {h : Heap} : ∀ {ss : List Str} {vs : List Value}, VRs H h (txts ss) vs → StrsAre vs ss
  | [], _, .nil => .nil
  | s :: ss, _, .cons r rs => by
    cases r with
    | str _ t => exact .cons _ _ rs.strsAre
theorem VRs.ofStrs {H : HP} {h : Heap} : ∀ {ss : List Str} {vs : List Value}, StrsAre vs ss → VRs H h (txts ss) vs
  | [], _, .nil => .nil
  | s :: ss, _, .cons _ t r => .cons (.str ..) (VRs.ofStrs r)
section
variable {prog : Program} {w : World} {B : GB} {A : Around} {env : Env} {l : Loc} {H : HP} {P : AV → HP → Prop}
theorem op_lenS {x : Str} (hsz : x.length ≤ 100000) (p : P (.int x.length) H) : OP prog w B A H [.str x] (cl (.builtin "len")) P := opc1 fun s E v hr r => by
  (first | obtain ⟨_, rfl⟩ := r.sh | obtain rfl := r.sh)
  exact PyProof.Rows.len_str (by omega) (.tok p (.int ..) hr)
theorem op_lenL {av : AV} {xs : List AV} (hl : isL av = true) (hs : seqOf av H = some xs) (hsz : xs.length ≤ 100000) (p : P (.int xs.length) H) : OP prog w B A H [av] (cl (.builtin "len")) P := opc1 fun s E v hr r => by
  obtain ⟨b, vs, n, rfl, e, rs⟩ := listAt hl r hr hs
  refine Calls.call_len_list (isList_of e) (by rw [rs.size]; omega) ?_
  rw [rs.size]
  exact .tok p (.int ..) hr
theorem opb_list {P : Bool → HP → Prop} {av : AV} {xs : List AV} (hl : isL av = true) (hs : seqOf av H = some xs) (hsz : xs.length ≤ 100000) (p : P (!xs.isEmpty) H) : OPB prog w B A H [av] (unB truthy) P := .mk fun s E vs hr r => by
  obtain ⟨v, rfl, r⟩ := r.one
  obtain ⟨b, vs, n, rfl, e, rs⟩ := listAt hl ‹_› hr hs
  refine wpAny_truthy_list (isList_of e) (by rw [rs.size]; omega) ?_
  have : vs.isEmpty = xs.isEmpty := by
    have h1 := rs.size
    rw [Bool.eq_iff_iff, Array.isEmpty_iff_size_eq_zero, List.isEmpty_iff_length_eq_zero, h1]
  rw [this]
  exact .tok p hr
theorem op_countS {x y : Str} (p : P (.int (Txt.count x y)) H) : OP prog w B A H [.str x, .str y] (cl (.builtin "str.count")) P := opc2 fun s E v u hr r r' => by
  (first | obtain ⟨_, rfl⟩ := r.sh | obtain rfl := r.sh); (first | obtain ⟨_, rfl⟩ := r'.sh | obtain rfl := r'.sh)
  exact call_givesAt (P := fun _ => True) F.slot_str_count (typeIs_str _ _ _) F.entry_str_count (F.args_str_count_2 _ _) (Gives.at (gives_str_count x y _ _)) trivial (.tok p (.int ..) hr)
theorem countIn_strs_count (k : Str) : ∀ ys : List Str, countIn (.str k) (ys.map PyData.str) = (ys.count k : Nat)
  | [] => rfl
  | y :: ys => by
    rw [List.map_cons, countIn, countIn_strs_count k ys, List.count_cons]
    by_cases q : y = k
    · subst q; simp [same]; omega
    · have : same (PyData.str y) (PyData.str k) = false := by
        cases z : same (PyData.str y) (PyData.str k) with
        | false => rfl
        | true => exact absurd (by have := eq_of_same _ _ z; injection this) q
      simp [this, q]
theorem op_countL {av : AV} {ys : List Str} {k : Str} (hl : isL av = true) (hs : seqOf av H = some (txts ys)) (p : P (.int (ys.count k : Nat)) H) : OP prog w B A H [av, .str k] (cl (.builtin "list.count")) P := opc2 fun s E v u hr r r' => by
  obtain ⟨b, vs, n, rfl, e, rs⟩ := listAt hl r hr hs
  (first | obtain ⟨_, rfl⟩ := r'.sh | obtain rfl := r'.sh)
  refine PyProof.Rows.count_list_strs (vs := vs.toList) (by simpa using isList_of e) rs.strsAre ?_
  rw [countIn_strs_count]
  exact .tok p (.int ..) hr
theorem op_join {av : AV} {ys : List Str} {x : Str} (hl : isL av = true) (hs : seqOf av H = some (txts ys)) (hok : (ys.map (·.length)).sum + ys.length * x.length ≤ 100000) (p : P (.str (Txt.join x ys)) H) : OP prog w B A H [.str x, av] (cl (.builtin "str.join")) P := opc2 fun s E v u hr r r' => by
  obtain ⟨b, vs, n, rfl, e, rs⟩ := listAt hl r' hr hs
  (first | obtain ⟨_, rfl⟩ := r.sh | obtain rfl := r.sh)
  exact PyProof.Rows.join_list (isList_of e) rs.strsAre (by omega) fun t' k => .tok p (.str ..) hr
theorem op_strInt {i : Int} (hi : i.natAbs < 1000) (p : P (.str (toString i)) H) : OP prog w B A H [.int i] (cl (.type "str")) P := opc1 fun s E v hr r => by
  (first | obtain ⟨_, rfl⟩ := r.sh | obtain rfl := r.sh)
  refine PySem.P.str_of_int ?_ (.tok p (.str ..) hr)
  have h1 : i.natAbs.log2 ≤ i.natAbs := by
    by_cases h0 : i.natAbs = 0
    · rw [h0]; decide
    · exact Nat.le_of_lt (Nat.lt_of_lt_of_le (Nat.lt_two_pow_self) (Nat.log2_self_le h0))
  omega
theorem op_sorted {av : AV} {ss : List Str} (hl : isL av = true) (hs : seqOf av H = some (txts ss)) (hsz : ss.length < 64) (p : ∀ ss' : List Str, ss'.Perm ss → sortedS ss' = true → P (.lst (txts ss')) H) : OP prog w B A H [av] (cl (.builtin "sorted")) P := opc1 fun s E v hr r => by
  obtain ⟨b, vs, n, rfl, e, rs⟩ := listAt hl r hr hs
  refine PyProof.Rows.sorted_strs (vs := vs.toList) (by simpa using isList_of e) rs.strsAre (by rw [← rs.length]; simpa using hsz) fun out ss' h1 h2 h3 => ?_
  obtain ⟨ep, hat⟩ := sortedAll_at s.heap vs.toList out
  have kp : ∀ b o, s.heap.get? b = some o → (sortedAll s.heap vs.toList out).get? b = some o := fun b o e => sortedAll_old e
  refine Post.grown kp (p ss' h2 h3) (.lst (fun hb => ?_) hat (VRs.ofStrs h1)) hr
  obtain ⟨q, hq, eq⟩ := List.mem_map.mp hb
  obtain ⟨us, m, e', _⟩ := hr.list q hq
  have := Heap.lt_size e'
  rw [eq] at this
  exact absurd this (Nat.not_lt.mpr (Nat.le_succ _))
end
end Mine
namespace Mine
open PySem PySem.Calls PyProof.Rows PySem.Spec PySem.SeqAt

mutual
noncomputable def ofD : PyData → AV
  | .none => .none
  | .bool b => .bool b
  | .int i => .int i
  | .str x => .str x
  | .list xs => .lst (ofDs xs)
  | .tuple xs => .tup (ofDs xs)
  | .dict _ => .none
noncomputable def ofDs : List PyData → List AV
  | [] => []
  | x :: xs => ofD x :: ofDs xs
end
mutual
noncomputable def nice : PyData → Bool
  | .none | .int _ => true
  | .bool _ => false
  | .str x => PyData.strOk x
  | .list xs => nices xs
  | .tuple xs => nices xs
  | .dict _ => false
noncomputable def nices : List PyData → Bool
  | [] => true
  | x :: xs => nice x && nices xs
end
mutual
theorem nice_lay : ∀ d : PyData, nice d = true → d.canLay0 = true
  | .none, _ => by simp [PyData.canLay0]
  | .bool _, h => by simp [nice] at h
  | .int _, _ => by simp [PyData.canLay0]
  | .str x, h => by simpa [PyData.canLay0, nice] using h
  | .list xs, h => by simp only [PyData.canLay0]; exact nices_lay xs (by simpa [nice] using h)
  | .tuple xs, h => by simp only [PyData.canLay0]; exact nices_lay xs (by simpa [nice] using h)
  | .dict _, h => by simp [nice] at h
theorem nices_lay : ∀ xs : List PyData, nices xs = true → PyData.canLayAll0 xs = true
  | [], _ => by simp only [PyData.canLayAll0]
  | x :: xs, h => by
    simp only [nices, Bool.and_eq_true] at h
    simp only [PyData.canLayAll0, nice_lay x h.1, nices_lay xs h.2, Bool.and_self]
end
mutual
theorem nice_mix : ∀ a b : PyData, nice a = true → nice b = true → noMix a b = true
  | .bool _, _, h, _ => by simp [nice] at h
  | .dict _, _, h, _ => by simp [nice] at h
  | .list xs, .list ys, h, h' => by rw [noMix]; exact nices_mix xs ys (by simpa [nice] using h) (by simpa [nice] using h')
  | .tuple xs, .tuple ys, h, h' => by rw [noMix]; exact nices_mix xs ys (by simpa [nice] using h) (by simpa [nice] using h')
  | .none, b, _, h' => by cases b <;> simp [noMix, nice] at h' ⊢
  | .int _, b, _, h' => by cases b <;> simp [noMix, nice] at h' ⊢
  | .str _, b, _, h' => by cases b <;> simp [noMix, nice] at h' ⊢
  | .list _, .none, _, _ | .list _, .int _, _, _ | .list _, .str _, _, _ | .list _, .tuple _, _, _ => by simp [noMix]
  | .tuple _, .none, _, _ | .tuple _, .int _, _, _ | .tuple _, .str _, _, _ | .tuple _, .list _, _, _ => by simp [noMix]
  | .list _, .bool _, _, h' | .list _, .dict _, _, h' | .tuple _, .bool _, _, h' | .tuple _, .dict _, _, h' => by simp [nice] at h'
theorem nices_mix : ∀ xs ys : List PyData, nices xs = true → nices ys = true → noMixAll xs ys = true
  | [], [], _, _ => by simp [noMixAll]
  | [], _ :: _, _, _ => by simp [noMixAll]
  | _ :: _, [], _, _ => by simp [noMixAll]
  | x :: xs, y :: ys, h, h' => by
    simp only [nices, Bool.and_eq_true] at h h'
    simp only [noMixAll, nice_mix x y h.1 h'.1, nices_mix xs ys h.2 h'.2, Bool.and_self]
end
mutual
theorem VR.reads {H : HP} {h : Heap} : ∀ (d : PyData) {v : Value}, nice d = true → VR H h (ofD d) v → ∃ as, Reads h v d as
  | .none, _, _, r => by obtain rfl := r.sh; exact ⟨_, .none⟩
  | .int _, _, _, r => by obtain ⟨_, rfl⟩ := r.sh; exact ⟨_, .int ..⟩
  | .str _, _, _, r => by obtain ⟨_, rfl⟩ := r.sh; exact ⟨_, .str ..⟩
  | .bool _, _, q, _ => nomatch q
  | .dict _, _, q, _ => nomatch q
  | .list xs, _, q, r => by
    obtain ⟨a, vs, n, rfl, k, e, rs⟩ := VR.lstInv (as := ofDs xs) r
    obtain ⟨as, r'⟩ := VRs.reads xs q rs
    exact ⟨_, .list e rfl rfl r'⟩
  | .tuple xs, _, q, r => by
    obtain ⟨a, vs, n, rfl, e, rs⟩ := VR.tupInv (as := ofDs xs) r
    obtain ⟨as, r'⟩ := VRs.reads xs q rs
    exact ⟨_, .tuple e rfl rfl r'⟩
theorem VRs.reads {H : HP} {h : Heap} : ∀ (ds : List PyData) {vs : List Value}, nices ds = true → VRs H h (ofDs ds) vs → ∃ as, ReadsAll h vs ds as
  | [], _, _, r => by obtain rfl := r.nilInv; exact ⟨_, .nil⟩
  | d :: ds, _, q, r => by
    obtain ⟨q1, q2⟩ := Bool.and_eq_true_iff.mp q
    obtain ⟨v, us, rfl, r, rs⟩ := VRs.consInv (a := ofD d) (l := ofDs ds) r
    obtain ⟨as, r'⟩ := VR.reads d q1 r
    obtain ⟨bs, rs'⟩ := VRs.reads ds q2 rs
    exact ⟨_, .cons r' rs'⟩
end
theorem ofDs_strs : ∀ ss : List Str, ofDs (ss.map .str) = txts ss
  | [] => rfl
  | s :: ss => by simp [ofDs, ofD, ofDs_strs ss]

section
variable {prog : Program} {w : World} {B : GB} {A : Around} {env : Env} {l : Loc} {H : HP} {P : AV → HP → Prop}
theorem shaped_of {d : PyData} (h : nice d = true) (hd : d.depth ≤ 64) : shaped d = true := by
  simp [shaped, nice_lay d h, hd]
theorem op_eqD {a b : AV} {da db : PyData} (ea : a = ofD da) (eb : b = ofD db) (na : nice da = true) (nb : nice db = true) (ha : da.depth ≤ 64) (hb : db.depth ≤ 64) (hu : A.units + 64 < cLine) (p : P (.bool (same da db)) H) : OP prog w B A H [a, b] (bin (compareOp .Eq)) P := op2 fun s E v u hr r r' => by
  subst ea eb
  obtain ⟨as, ra⟩ := VR.reads _ na r
  obtain ⟨bs, rb⟩ := VR.reads _ nb r'
  exact eq_dataH_same ra rb (shaped_of na ha) (shaped_of nb hb) hu (nice_mix _ _ na nb) (.here p (.bool _) hr)
theorem op_neD {a b : AV} {da db : PyData} (ea : a = ofD da) (eb : b = ofD db) (na : nice da = true) (nb : nice db = true) (ha : da.depth ≤ 64) (hb : db.depth ≤ 64) (hu : A.units + 64 < cLine) (p : P (.bool (!same da db)) H) : OP prog w B A H [a, b] (bin (compareOp .NotEq)) P := op2 fun s E v u hr r r' => by
  subst ea eb
  obtain ⟨as, ra⟩ := VR.reads _ na r
  obtain ⟨bs, rb⟩ := VR.reads _ nb r'
  exact ne_dataH_same ra rb (shaped_of na ha) (shaped_of nb hb) hu (nice_mix _ _ na nb) (.here p (.bool _) hr)
theorem nices_mem : ∀ {xs : List PyData} {y : PyData}, nices xs = true → y ∈ xs → nice y = true
  | x :: xs, y, h, hm => by
    simp only [nices, Bool.and_eq_true] at h
    rcases List.mem_cons.mp hm with rfl | hm
    · exact h.1
    · exact nices_mem h.2 hm
theorem op_notinD {a av : AV} {d : PyData} {xs : List PyData} (hl : isL av = true) (hs : seqOf av H = some (ofDs xs)) (ea : a = ofD d) (nd : nice d = true) (nx : nices xs = true) (hd : d.depth ≤ 64) (hx : (PyData.list xs).depth ≤ 64) (hu : A.units + 65 < cLine) (p : P (.bool (!decide (countIn d xs ≠ 0))) H) : OP prog w B A H [a, av] (bin (compareOp .NotIn)) P := op2 fun s E v u hr r r' => by
  subst ea
  obtain ⟨b, vs, n, rfl, e, rs⟩ := listAt hl r' hr hs
  obtain ⟨as, ra⟩ := VR.reads _ nd r
  obtain ⟨bs, rb⟩ := VRs.reads _ nx rs
  exact notIn_list_dataH (.list e rfl rfl rb) ra (shaped_of (by simpa [nice] using nx) hx) (shaped_of nd hd) hu (fun y hy => nice_mix _ _ (nices_mem nx hy) nd) (.here p (.bool _) hr)

-- identity
theorem op_is_str_obj {x : Str} {a : Addr} (p : P (.bool false) H) : OP prog w B A H [.str x, .obj a] (bin (compareOp .Is)) P := op2 fun s E v u hr r r' => by
  (first | obtain ⟨_, rfl⟩ := r.sh | obtain rfl := r.sh); (first | obtain ⟨_, rfl⟩ := r'.sh | obtain rfl := r'.sh)
  exact wpAny_is_other (by rfl) (by simp) (.here p (.bool _) hr)
theorem op_is_obj_obj {a : Addr} (p : P (.bool true) H) : OP prog w B A H [.obj a, .obj a] (bin (compareOp .Is)) P := op2 fun s E v u hr r r' => by
  (first | obtain ⟨_, rfl⟩ := r.sh | obtain rfl := r.sh); (first | obtain ⟨_, rfl⟩ := r'.sh | obtain rfl := r'.sh)
  exact wpAny_is_ref_self (.here p (.bool _) hr)

theorem str_eq_declines_obj (x : Str) (t : Tok) (a : Addr) (o : Obj) (hc : o.cls = .type "object") (hd : o.data = .plain) : Meets (Builtin.«str.__eq__» ⟨[.str x t, .ref a], []⟩)
    (fun _ R s => s.heap.get? a = some o ∧ R (.ok (.ret .notImplemented)) s) :=
  .of_wp fun prog w A R s h => by
    obtain ⟨c, d, dt, sl⟩ := o
    subst hc hd
    obtain ⟨hp, g, d, tk, os⟩ := s; obtain ⟨hl, h⟩ := h
    wp_walk using AutoSeq1.wpAny_loadPart' hl
    exact ⟨_, rfl, h⟩
theorem sub_str_object : isSubtype (.type "str") (.type "object") = pure true := by rw [isSubtype_type]; kernel_rfl
theorem rc_eq_sub_decline {M : Model} {A : Around} {E : Value → Shared → Prop} {s : Shared} {a b : Value} {Ta Tb ida idb : String} {k : Bool} {Q : Value → Shared → Prop} (ha : s.TypeIs a Ta) (hb : s.TypeIs b Tb)
    (hne : (Value.type Ta != Value.type Tb) = true) (hsub : isSubtype (.type Tb) (.type Ta) = pure true) (h1 : Slot Ta (cmpInfo .Eq).2.1 ida) (h2 : Slot Tb (cmpInfo .Eq).2.2 idb)
    (hc1 : ∀ Q' : Value → Shared → Prop, Q' .notImplemented s → wpAny M A (call (.builtin ida) [a, b]) Q' E s)
    (hc2 : ∀ Q' : Value → Shared → Prop, Q' .notImplemented s → wpAny M A (call (.builtin idb) [b, a]) Q' E s)
    (hk : ∀ Q' : Bool → Shared → Prop, Q' k s → wpAny M A (isSame a b) Q' E s)
    (hr : [a, b].any Value.onHeap = false ∨ A.units < cLine) (h : Q (.bool k) s) : wpAny M A (richCompare .Eq a b) Q E s := by
  rcases hi : cmpInfo CmpOp.Eq with ⟨sym, f, r⟩
  rw [hi] at h1 h2
  simp only [richCompare, hi, ha.oneThing_none]
  try with_reducible refine wpAny_holding ?_
  refine wpAny_bind (wpAny_cRoomFor_or hr ?_)
  refine wpAny_bind (wpAny_typeOf ha (wpAny_bind (wpAny_typeOf hb ?_)))
  simp only [hne, if_true]
  refine wpAny_bind (wpAny_of_eq hsub ?_)
  simp only [if_true, Bool.not_true, Bool.false_eq_true, if_false]
  refine wpAny_bind (m := tryCompare b _ a) (wpAny_tryCompare_declines hb h2 (hc2 _ ⟨rfl, ?_⟩))
  refine wpAny_bind (m := tryCompare a _ b) (wpAny_tryCompare_declines ha h1 (hc1 _ ⟨rfl, ?_⟩))
  exact wpAny_bind (wpAny_rule (wpAny_bind (hk _ (wpAny_pure h))))
theorem op_eq_obj_str {x : Str} {a : Addr} (hu : A.units < cLine) (p : P (.bool false) H) : OP prog w B A H [.obj a, .str x] (bin (compareOp .Eq)) P := op2 fun s E v u hr r r' => by
  cases r with
  | obj e c d =>
    cases r' with
    | str _ t =>
      show wpAny _ A (richCompare .Eq _ _) _ E s
      exact rc_eq_sub_decline (k := false) ⟨_, e, c⟩ (typeIs_str s x t) (by decide) sub_str_object F.slot_object_eq F.slot_str_eq_refl
        (fun _ hq => call_gives F.slot_object_eq ⟨_, e, c⟩ F.entry_object_eq (F.args_object_eq_2 _ _) (TypeEq.object_eq_other (by rfl) (by rfl)) hq)
        (fun _ hq => call_meets F.slot_str_eq_refl (typeIs_str s x t) F.entry_str_eq (F.args_str_eq_2 _ _) (str_eq_declines_obj x t _ _ c d) ⟨e, hq⟩)
        (fun _ hq => wpAny_of_eq (rfl : isSame (.ref a) (.str x t) = pure false) hq) (.inr hu) (.here p (.bool _) hr)
end
end Mine
namespace Mine
open PySem PySem.Calls PyProof.Rows PySem.Spec PySem.SeqAt

theorem lookup_object_new : typeLookup (.type "object") "__new__" = pure (some (.builtin "object.__new__")) := by rw [typeLookup_type, builtinLookup_eq_fast]; kernel_rfl
theorem mro_object : mroOf (.type "object") = pure [.type "object"] := by rw [mroOf_type]; kernel_rfl
theorem slot_object_init : Slot "object" "__init__" "object.__init__" :=
  .of (owner := "object") (n := "__init__") (by rw [typeLookup_type, builtinLookup_eq_fast]; kernel_rfl) (by decide +kernel) (by decide +kernel) (by decide +kernel)
    (by first | exact .inl (by decide +kernel) | exact .inr (by decide +kernel)) (by rw [isSubtype_type]; kernel_rfl)
theorem called_object : TypeCalled "object" "object.__new__" "object.__init__" :=
  ⟨by decide +kernel, by decide +kernel, ⟨_, _, mro_object⟩, madeBy_type mro_object lookup_object_new (by decide +kernel), by decide +kernel, by rw [isSubtype_type]; kernel_rfl, slot_object_init⟩
theorem typeCall_object_0 : checkTypeCall "object" ⟨[], []⟩ = pure () := by kernel_rfl
theorem newCall_object_0 : checkBuiltinCall "object.__new__" ⟨[.type "object"], []⟩ = pure () := by kernel_rfl
theorem entry_object_new' : entryFor table "object.__new__" = some Builtin.«object.__new__» := entryFor_of_tree (by kernel_rfl)
theorem args_object_init_1 (a : Value) : argsOk "object.__init__" ⟨[a], []⟩ := by
  unfold argsOk; rw [signature?_of (id := "object.__init__") (n := ['_', '_', 't', 'i', 'n', 'i', '_', '_']) (o := ['t', 'c', 'e', 'j', 'b', 'o']) (by kernel_rfl) F.owner_object]; kernel_rfl
theorem madeHere_object : Bind.madeHere "object.__new__" (.type "object") = pure () := by
  unfold Bind.madeHere
  have e : Bind.staticBase (.type "object") = pure (.type "object") := by first | rfl | kernel_rfl
  rw [e]
  simp only [pure_bind, called_object.made]
  first | rfl | kernel_rfl | (simp; rfl)
theorem meets_object_new : Meets (Builtin.«object.__new__» ⟨[.type "object"], []⟩) (fun _ R s => R (.ok (.ret (.ref s.heap.objs.size))) { s with heap := s.heap.push { cls := .type "object", data := .plain } }) :=
  .of_wp fun prog w A R s h => by
    obtain ⟨hp, g, d, tk, os⟩ := s
    have h1 := madeHere_object
    wp_walk
    exact ⟨_, rfl, h⟩

section
variable {prog : Program} {w : World} {B : GB} {A : Around} {env : Env} {l : Loc} {H : HP} {P : AV → HP → Prop}
theorem op_object (p : ∀ a, P (.obj a) H) : OP prog w B A H [] (cl (.type "object")) P := .mk fun s E vs hr r => by
  obtain rfl := r.nilInv
  refine callType_meets called_object typeCall_object_0 newCall_object_0 entry_object_new' F.entry_object_init meets_object_new (Q₁ := fun obj s₁ => obj = .ref s.heap.objs.size ∧ s₁ = { s with heap := s.heap.push { cls := .type "object", data := .plain } }) ⟨rfl, rfl⟩ fun obj s₁ q => ?_
  obtain ⟨rfl, rfl⟩ := q
  have hT : ({ s with heap := s.heap.push { cls := .type "object", data := .plain } } : Shared).TypeIs (.ref s.heap.objs.size) "object" := ⟨_, Heap.get?_push_size _ rfl, rfl⟩
  refine ⟨hT, args_object_init_1 _, fun _ R s₁ => R (.ok (.ret .none)) s₁, Meets.of_wp fun prog w A R s h => wpAny_pure ⟨_, rfl, h⟩, rfl, ?_⟩
  exact Post.grown (fun b o e => Heap.get?_push_of_some _ e) (p _) (.obj (Heap.get?_push_size _ rfl) rfl rfl) hr

theorem HR.fresh {h h' : Heap} {vs : Array Value} {n : Nat} {as : List AV} (hr : HR B H h) (kp : ∀ b o, h.get? b = some o → h'.get? b = some o) (e : h'.get? h.objs.size = some (lob vs n)) (r : VRs H h as vs.toList) :
    HR B ((h.objs.size, as) :: H) h' ∧ Tr nowhere H h ((h.objs.size, as) :: H) h' := by
  have t : Tr nowhere H h ((h.objs.size, as) :: H) h' := ⟨fun b o _ q => .inl (.inl (kp b o q)), fun b hb => by
    rcases List.mem_cons.mp hb with rfl | hb
    · exact .inr size_none
    · exact .inl hb⟩
  have hnk : h.objs.size ∉ keys H := fun hm => by
    obtain ⟨p, hp, q⟩ := List.mem_map.mp hm
    obtain ⟨us, m, e', _⟩ := hr.list p hp
    have := Heap.lt_size e'
    rw [q] at this; exact Nat.lt_irrefl _ this
  refine ⟨⟨fun b o q => kp b o (hr.keep b o q), fun p hp => ?_, fun b hb => ?_, List.nodup_cons.mpr ⟨hnk, hr.nodup⟩, fun L hL => let ⟨m, hm⟩ := hr.alive L hL; ⟨m, hm.keeps kp⟩⟩, t⟩
  · rcases List.mem_cons.mp hp with rfl | hp
    · exact ⟨vs, n, e, r.tr' t⟩
    · obtain ⟨us, m, q, r'⟩ := hr.list p hp
      exact ⟨us, m, kp _ _ q, r'.tr' t⟩
  · rcases List.mem_cons.mp hb with rfl | hb
    · cases q : B.get? h.objs.size with
      | none => rfl
      | some o => exact absurd (Heap.lt_size (hr.keep _ _ q)) (Nat.lt_irrefl _)
    · exact hr.new b hb

theorem op_listStr {x : Str} (hh : A.handled = none) (hsz : x.length ≤ 1000) (p : ∀ a, P (.list a) ((a, signs x) :: H)) : OP prog w B A H [.str x] (cl (.type "list")) P := opc1 fun s E v hr r => by
  cases r with
  | str _ t =>
    refine call_list_str hh x t (fun h' tk acc c kp e hi => ?_) (by rw [sizeLine_eq]; have : x.cps.size = x.length := rfl; omega)
    have rs : VRs H s.heap (signs x) acc.toList := by
      have hlen : acc.toList.length = (signs x).length := by simp [signs, hi.1]
      have key : ∀ (l : List AV) (vs : List Value), vs.length = l.length → (∀ j v a, vs[j]? = some v → l[j]? = some a → VR H s.heap a v) → VRs H s.heap l vs := fun l => by
        induction l with
        | nil => intro vs h _; cases vs with | nil => exact .nil | cons _ _ => simp at h
        | cons a l ih => intro vs h hv; cases vs with
          | nil => simp at h
          | cons v vs => exact .cons (hv 0 v a rfl rfl) (ih vs (by simpa using h) fun j v a h1 h2 => hv (j + 1) v a (by simpa using h1) (by simpa using h2))
      refine key _ _ hlen fun j v a h1 h2 => ?_
      obtain ⟨c, u, hc, rfl⟩ := hi.2 j v (by simpa using h1)
      obtain ⟨c', hc', rfl⟩ := signs_get h2
      rw [hc] at hc'; cases hc'
      exact .str ..
    obtain ⟨hr', t'⟩ := hr.fresh kp e rs
    exact ⟨.list _, _, h', tk, rfl, p _, .list _, hr', t'⟩
theorem op_isinstanceStr {x : Str} (p : P (.bool true) H) : OP prog w B A H [.str x, .val (.type "str")] (cl (.builtin "isinstance")) P := opc2 fun s E v u hr r r' => by
  (first | obtain ⟨_, rfl⟩ := r.sh | obtain rfl := r.sh); (first | obtain ⟨_, rfl⟩ := r'.sh | obtain rfl := r'.sh)
  exact PySem.call_isinstance (isinstance_true (Tx := "str") (by kernel_rfl) (by rw [isSubtype_type]; kernel_rfl)) ⟨rfl, .here p (.bool _) hr⟩
end
section
variable {prog : Program} {w : World} {B : GB} {A : Around} {H₁ H₂ : HP} {a : Addr} {xs : List AV} {P : AV → HP → Prop}
theorem op_pop {x : AV} (hsz : xs.length ≤ 1000) (p : P x (H₁ ++ (a, xs) :: H₂)) : OP prog w B A (H₁ ++ (a, xs ++ [x]) :: H₂) [.list a] (cl (.builtin "list.pop")) P := opc1 fun s E v hr r => by
  (first | obtain ⟨_, rfl⟩ := r.sh | obtain rfl := r.sh)
  obtain ⟨vs, n, e, rs⟩ := hr.at
  have hs : vs.size = xs.length + 1 := by rw [rs.size]; simp
  obtain ⟨y, hy, ry⟩ := rs.get (i := xs.length) (a := x) (by simp)
  have hy' : vs[vs.size - 1]? = some y := by rw [hs]; simpa using hy
  refine call_meets F.slot_list_pop ⟨_, e, rfl⟩ F.entry_list_pop (F.args_list_pop_1 _) (PySem.MeetsSeq.list_pop_last a vs n y hy' (by rw [sizeLine_eq, hs]; omega)) ⟨e, ?_⟩
  refine Post.changed (f := fun x => x.eraseIdxIfInBounds (vs.size - 1)) hr e ?_ ry p
  have := rs.eraseIdx (vs.size - 1)
  have e1 : (xs ++ [x]).eraseIdx (vs.size - 1) = xs := by
    rw [hs]; simp [List.eraseIdx_append_of_length_le]
  rw [e1] at this
  have e2 : (vs.eraseIdxIfInBounds (vs.size - 1)).toList = vs.toList.eraseIdx (vs.size - 1) := by
    simp
  rw [e2]; exact this
end
end Mine
namespace Mine
open PySem PySem.Calls PyProof.Rows PySem.Spec PySem.SeqAt

noncomputable abbrev bmo (id : String) (v : Value) : Obj := { cls := .type "builtin_function_or_method", data := .fields #[.builtin id, v] }
theorem list_append_look : typeLookup (.type "list") (Str.ofString "append") = pure (some (.builtin "list.append")) := F.slot_list_append.lookup
theorem kind_append : builtinKind "list.append" = some .method := by decide +kernel
theorem md_get : typeLookup (.type "method_descriptor") (Str.ofString "__get__") = pure (some (.builtin "method_descriptor.__get__")) := by rw [typeLookup_type, builtinLookup_eq_fast]; kernel_rfl
theorem md_set : typeLookup (.type "method_descriptor") (Str.ofString "__set__") = pure none := by rw [typeLookup_type, builtinLookup_eq_fast]; kernel_rfl
theorem md_delete : typeLookup (.type "method_descriptor") (Str.ofString "__delete__") = pure none := by rw [typeLookup_type, builtinLookup_eq_fast]; kernel_rfl
theorem slot_md_get : Slot "method_descriptor" (Str.ofString "__get__") "method_descriptor.__get__" :=
  .of (owner := "method_descriptor") (n := "__get__") (by rw [typeLookup_type, builtinLookup_eq_fast]; kernel_rfl) (by decide +kernel) (by decide +kernel) (by decide +kernel)
    (by first | exact .inl (by decide +kernel) | exact .inr (by decide +kernel)) (by rw [isSubtype_type]; kernel_rfl)
theorem entry_md_get : entryFor table "method_descriptor.__get__" = some Builtin.«method_descriptor.__get__» := entryFor_of_tree (by kernel_rfl)
theorem args_md_get (a b c : Value) : argsOk "method_descriptor.__get__" ⟨[a, b, c], []⟩ := by unfold argsOk; kernel_rfl
theorem sub_list_list' : isSubtype (.type "list") (.type "list") = pure true := by rw [isSubtype_type]; kernel_rfl
theorem meets_md_get (a : Addr) (xs : Array Value) (k : Nat) :
    Meets (Builtin.«method_descriptor.__get__» ⟨[.builtin "list.append", .ref a, .type "list"], []⟩) (fun A R s => s.heap.get? a = some (lob xs k) ∧ R (.ok (.ret (.ref s.heap.objs.size))) { s with heap := s.heap.push (bmo "list.append" (.ref a)) }) :=
  Meets.of_wp fun prog w A R s hs => by
    obtain ⟨hp, g, d, tk, os⟩ := s
    obtain ⟨hx, hs⟩ := hs
    have hT : (⟨hp, g, d, tk, os⟩ : Shared).TypeIs (.ref a) "list" := ⟨_, hx, rfl⟩
    have h1 := sub_list_list'
    have h2 : (".".intercalate ("list.append".cutAt '.').dropLast) = "list" := by first | rfl | decide +kernel
    unfold Builtin.«method_descriptor.__get__»
    repeat (any_goals (first | assumption | wp_step | simp only [h2]))
    exact ⟨_, rfl, hs⟩
theorem meets_getattr_append (a : Addr) (xs : Array Value) (k : Nat) (u : Tok) :
    Meets (Builtin.«object.__getattribute__» ⟨[.ref a, .str (Str.ofString "append") u], []⟩) (fun A R s => s.heap.get? a = some (lob xs k) ∧ R (.ok (.ret (.ref s.heap.objs.size))) { s with heap := s.heap.push (bmo "list.append" (.ref a)) }) :=
  Meets.of_wp fun prog w A R s hs => by
    obtain ⟨hp, g, d, tk, os⟩ := s
    obtain ⟨hx, hs⟩ := hs
    have hT : (⟨hp, g, d, tk, os⟩ : Shared).TypeIs (.ref a) "list" := ⟨_, hx, rfl⟩
    have hl := list_append_look
    have h2 := md_get
    have h3 := md_set
    have h4 := md_delete
    unfold Builtin.«object.__getattribute__»
    repeat (any_goals (first | assumption | ((with_reducible show wpAny _ _ (call (Value.builtin "method_descriptor.__get__") _ _) _ _ _); refine call_meets slot_md_get F.type_list_append entry_md_get (args_md_get _ _ _) (meets_md_get a xs k) ⟨hx, ?_⟩) | wp_step | simp only [kind_append]))
    exact wpAny_pure ⟨_, rfl, hs⟩
theorem entry_lga : entryFor table "list.__getattribute__" = some Builtin.«object.__getattribute__» := am_entry_list_getattribute
theorem getAttr_append {prog : Program} {w : World} {A : Around} {E : Value → Shared → Prop} {s : Shared} {a : Addr} {xs : Array Value} {k : Nat} {Q : Value → Shared → Prop} (hx : s.heap.get? a = some (lob xs k))
    (h : Q (.ref s.heap.objs.size) { s with heap := s.heap.push (bmo "list.append" (.ref a)), toks := s.toks + 1 }) : wpAny (model prog w) A (getAttr (.ref a) (Str.ofString "append") true) Q E s := by
  obtain ⟨hp, g, d, tk, os⟩ := s
  have hT : ∀ tk', (⟨hp, g, d, tk', os⟩ : Shared).TypeIs (.ref a) "list" := fun _ => ⟨_, hx, rfl⟩
  have f3 := F.slot_list_getattribute.lookup
  have f4 := F.slot_list_getattribute.bind (.ref a)
  unfold getAttr getAttrBy
  repeat (any_goals (first | assumption | exact hT _ | ((with_reducible show wpAny _ _ (call (Value.builtin "list.__getattribute__") _ _) _ _ _); refine call_meets F.slot_list_getattribute (hT _) entry_lga (F.args_list_getattribute_2 _ _) (meets_getattr_append a xs k _) ⟨hx, ?_⟩) | wp_step))
  exact wpAny_pure h

theorem sub_list_module : isSubtype (.type "list") (.type "module") = pure false := by rw [isSubtype_type]; kernel_rfl
theorem sub_list_type : isSubtype (.type "list") (.type "type") = pure false := by rw [isSubtype_type]; kernel_rfl
theorem bound_args (a : Addr) (x : Value) : Bind.checkArgs "list.append" { machinery := Manifest.Machinery.oneArg, full := toString (Bind.lastOf "list") ++ toString "." ++ toString (Bind.lastOf "list.append"), short := "append", receiver := Manifest.Receiver.self, params := [{ name := "object", kind := Manifest.ParamKind.posOnly, required := true }] } ⟨[.ref a, x], []⟩ = pure () := by kernel_rfl
theorem checkBound_append {prog : Program} {w : World} {A : Around} {E : Value → Shared → Prop} {s : Shared} {a : Addr} {xs : Array Value} {k : Nat} {x : Value} {Q : Unit → Shared → Prop} (hx : s.heap.get? a = some (lob xs k)) (h : Q () s) :
    wpAny (model prog w) A (checkBoundCall "list.append" ⟨[.ref a, x], []⟩) Q E s := by
  obtain ⟨hp, g, d, tk, os⟩ := s
  have hT : (⟨hp, g, d, tk, os⟩ : Shared).TypeIs (.ref a) "list" := ⟨_, hx, rfl⟩
  have h1 := sub_list_module
  have h2 := sub_list_type
  have h3 := bound_args a x
  unfold checkBoundCall
  repeat (any_goals (first | assumption | wp_step | simp only [kind_append, vararg_append]))
theorem run_bm {prog : Program} {w : World} {A : Around} {E : Value → Shared → Prop} {s : Shared} {m a : Addr} {o : Obj} {xs : Array Value} {k : Nat} {x : Value} {Q : Value → Shared → Prop} (hm : s.heap.get? m = some o) (hc : o.cls = .type "builtin_function_or_method") (hd : o.data = .fields #[.builtin "list.append", .ref a])
    (hx : s.heap.get? a = some (lob xs k)) (hsz : xs.size ≤ sizeLine) (h : Q .none { s with heap := s.heap.update a (Obj.mapSeq fun ys => ys.push x) }) : wpAny (model prog w) A (call (.ref m) [x]) Q E s := by
  refine wpAny_call (codeAny_of_tree ?_)
  show wpAny _ _ (callAny (.ref m) _) _ _ _
  unfold callAny
  refine wpAny_bind (wpAny_load hm ?_)
  simp only [hd, hc]
  show wpAny _ _ (checkBoundCall "list.append" ⟨[.ref a, x], []⟩ >>= fun _ => again (.builtin "list.append" ⟨[.ref a, x], []⟩)) _ _ _
  refine wpAny_bind (checkBound_append hx ?_)
  refine wpAny_pure ⟨Code.quiet_builtin _ (by decide +kernel), codeAny_builtin F.entry_list_append ?_⟩
  rw [Around.under_plainId (id := "list.append") (by decide +kernel) _]
  exact list_append a xs k x hsz prog w _ (wants Q E) _ ⟨hx, h⟩
theorem callWith_bm {M : Model} {A : Around} {E : Value → Shared → Prop} {s : Shared} {pos : Pos} {u : Addr} {args : List (Bool × Sem Value)} {Q : Value → Shared → Prop} (hplain : args.any (·.1) = false)
    (h : wpAny M A (evalArgs (.ref u) true args []) (fun x s₁ => (∃ o fs, s₁.heap.get? u = some o ∧ o.cls = .type "builtin_function_or_method" ∧ o.data = .fields fs) ∧ wpAny M A (call (.ref u) x.pos x.kw) Q E s₁) E s) : wpAny M A (callWith pos (.ref u) [] args []) Q E s := by
  unfold callWith
  refine wpAny_bind (wpAny_holding (wpAny_mono h (fun x s₁ h₁ => wpAny_bind (wpAny_standAt ?_)) fun _ _ x => x))
  obtain ⟨⟨o, fs, ho, hc, hd⟩, hcall⟩ := h₁
  simp only [hplain, List.any_nil, Bool.or_false]
  refine wpAny_bind (m := keeperOf (.ref u)) ?_
  unfold keeperOf
  refine wpAny_bind (wpAny_load ho ?_)
  simp only [hd, hc, show (Value.type "builtin_function_or_method" != Value.type "method") = true by decide, show (Value.type "builtin_function_or_method" == Value.type "builtin_function_or_method" || Value.type "builtin_function_or_method" == Value.type "method-wrapper") = true by decide, if_true]
  refine wpAny_pure ?_
  exact wpAny_bind (wpAny_mono hcall (fun r s₂ hr => wpAny_bind (wpAny_holding (wpAny_point (wpAny_pure hr)))) fun _ _ x => x)

section
variable {prog : Program} {w : World} {B : GB} {A : Around} {env : Env} {l : Loc} {H : HP} {P : AV → HP → Prop}
theorem ex_appendOf {n : Str} {np pos : Pos} (h : EX prog w B A env l (.Name n np) H fun a H₁ => ∃ c, a = .list c ∧ c ∈ keys H₁ ∧ P (.bm "list.append" (.list c)) H₁) : EX prog w B A env l (.Attribute (.Name n np) (Str.ofString "append") pos) H P := .mk fun s E hr F => by
  refine Attribute_name (use (h.run s E hr F) fun a v H₁ h₁ tk₁ p r hr₁ t₁ => ?_)
  obtain ⟨c, rfl, hk, p⟩ := p
  (first | obtain ⟨_, rfl⟩ := r.sh | obtain rfl := r.sh)
  obtain ⟨q, hq, rfl⟩ := List.mem_map.mp hk
  obtain ⟨vs, k, e, _⟩ := hr₁.list q hq
  refine getAttr_append e ?_
  exact Post.trans t₁ (Post.grown (s := { s with heap := h₁, toks := tk₁ }) (fun b o e => Heap.get?_push_of_some _ e) p (.bm (Heap.get?_push_size _ rfl) rfl rfl (.list _)) hr₁)
theorem ex_callBm {x : Str} {px pos : Pos} {e : Expr} {H₁ H₂ : HP} {a : Addr} {xs : List AV}
    (h : EX prog w B A env l (.Name x px) H fun v Hx => v = .bm "list.append" (.list a) ∧ EL prog w B A env l pos [e] Hx fun as Hy => ∃ y, as = [y] ∧ Hy = H₁ ++ (a, xs) :: H₂ ∧ xs.length ≤ 1000 ∧ P .none (H₁ ++ (a, xs ++ [y]) :: H₂))
    (he : starEach [e] env = (false, eval e env) :: starEach [] env := by rfl) : EX prog w B A env l (.Call (.Name x px) [e] [] pos) H P := .mk fun s E hr F => by
  refine wpAny_Call_ofName (use (h.run s E hr F) fun v u Hx h₁ tk₁ p r hr₁ t₁ => ?_)
  obtain ⟨rfl, p⟩ := p
  cases r with
  | bm em cm dm ra =>
    (first | obtain ⟨_, rfl⟩ := ra.sh | obtain rfl := ra.sh)
    have p' := p.run { s with heap := h₁, toks := tk₁ } E hr₁ (F.tr t₁)
    rw [he] at p' ⊢
    refine callWith_bm rfl (evalArgs_plain (useL p' fun as vs Hy h₂ tk₂ p₂ r₂ hr₂ t₂ => ?_))
    obtain ⟨y, rfl, rfl, hsz, p₂⟩ := p₂
    obtain ⟨v, rfl, rv⟩ := r₂.one
    have em₂ := (t₂.fields (fun q => q.elim) em dm (by rw [cm]; simp))
    obtain ⟨ws, n, ew, rs⟩ := hr₂.at
    refine ⟨⟨_, _, em₂, cm, dm⟩, run_bm em₂ cm dm ew (by rw [sizeLine_eq, rs.size]; omega) ?_⟩
    exact Post.trans (t₁.trans' t₂) (Post.changed (s := { s with heap := h₂, toks := tk₂ }) (f := fun x => x.push v) hr₂ ew (by simpa using rs.snoc rv) .none p₂)

theorem setItem_lob {s : Shared} {E : Value → Shared → Prop} {a : Addr} {vs : Array Value} {n : Nat} {k : Int} {t : Tok} {v : Value} {Q : Unit → Shared → Prop} (e : s.heap.get? a = some (lob vs n))
    (h0 : 0 ≤ k) (hfit : k < 2 ^ 63) (hn : k < vs.size) (hQ : Q () { s with heap := s.heap.update a (Obj.mapSeq (·.setIfInBounds k.toNat v)) }) :
    wpAny (model prog w) A (setItem (.ref a) (.int k t) v) Q E s := by
  unfold setItem
  try with_reducible refine wpAny_holding ?_
  first | refine wpAny_bind (wpAny_pure ?_) | skip
  have hT : s.TypeIs (.ref a) "list" := ⟨_, e, rfl⟩
  refine wpAny_bind (wpAny_sequenceKey hT (by decide) ?_)
  refine wpAny_bind (wpAny_callSpecial?_slot (name := Str.ofString "__setitem__") hT slot_list_setitem
    (wpAny_call_entry slot_list_setitem hT entry_list_setitem ?_ (args_list_setitem _ _ _)))
  show wpAny _ _ (Builtin.List.listSubscript? (.int k t) >>= _) _ _ s
  refine wpAny_bind (wpAny_listSubscript_int (fitsIndex_of h0 hfit) ?_)
  clear hfit
  obtain ⟨j, rfl⟩ := Int.eq_ofNat_of_zero_le h0
  have hj : j < vs.size := by omega
  have hx' : vs[j]? = some vs[j] := Array.getElem?_eq_getElem hj
  show wpAny _ _ ((seqItemAt a j >>= fun r => pure (r.map (j, ·))) >>= _) _ _ s
  refine wpAny_bind (wpAny_bind (wpAny_seqItemAt e rfl (wpAny_pure ?_)))
  rw [hx']
  show wpAny _ _ (setSeqItemAt a j v >>= _) _ _ s
  refine wpAny_bind (wpAny_setSeqItemAt e rfl ?_)
  first
    | exact wpAny_bind (wpAny_pure (wpAny_pure ⟨.none, rfl, wpAny_pure hQ⟩))
    | exact wpAny_pure ⟨.none, rfl, wpAny_pure hQ⟩
end
section
variable {prog : Program} {w : World} {B : GB} {A : Around} {env : Env} {l : Loc} {H : HP} {P : AF → Loc → HP → Prop}
noncomputable abbrev KPut3 (P : AF → Loc → HP → Prop) (l : Loc) (x c d : AV) (Hz : HP) : Prop := ∃ a k H₁ xs H₂, c = .list a ∧ d = .int k ∧ Hz = H₁ ++ (a, xs) :: H₂ ∧ 0 ≤ k ∧ k.toNat < xs.length ∧ xs.length ≤ 1000 ∧ P .next l (H₁ ++ (a, xs.set k.toNat x) :: H₂)
noncomputable abbrev KPut2 (prog : Program) (w : World) (B : GB) (A : Around) (env : Env) (l : Loc) (i : Expr) (P : AF → Loc → HP → Prop) (x c : AV) (Hy : HP) : Prop := EX prog w B A env l i Hy (KPut3 P l x c)
noncomputable abbrev KPut1 (prog : Program) (w : World) (B : GB) (A : Around) (env : Env) (l : Loc) (o i : Expr) (P : AF → Loc → HP → Prop) (x : AV) (Hx : HP) : Prop := EX prog w B A env l o Hx (KPut2 prog w B A env l i P x)
theorem sx_setitem {o i value : Expr} {pos' pos : Pos}
    (h : EX prog w B A env l value H (KPut1 prog w B A env l o i P))
    (hs : swapsWith value (some (.Subscript o i pos')) pos.line env = pure false := by rfl) :
    SX prog w B A env (.Assign [.Subscript o i pos'] value pos) l H P := .mk fun s E hr F => by
  refine wpAny_Assign_Subscript (use (h.run s E hr F.toFR) fun x v Hx h₁ tk₁ p r hr₁ t₁ => use (p.run { s with heap := h₁, toks := tk₁ } E hr₁ (F.tr t₁).toFR) fun c u Hy h₂ tk₂ p₂ r₂ hr₂ t₂ =>
    use (p₂.run { s with heap := h₂, toks := tk₂ } E hr₂ ((F.tr t₁).tr t₂).toFR) fun d z Hz h₃ tk₃ p₃ r₃ hr₃ t₃ => ?_) hs
  obtain ⟨a, k, H₁, xs, H₂, rfl, rfl, rfl, h0, hk, hsz, p₃⟩ := p₃
  (first | obtain ⟨_, rfl⟩ := r₂.sh | obtain rfl := r₂.sh); (first | obtain ⟨_, rfl⟩ := r₃.sh | obtain rfl := r₃.sh)
  obtain ⟨ws, n, e, rs⟩ := hr₃.at
  refine setItem_lob (s := { s with heap := h₃, toks := tk₃ }) e h0 (by omega) (by rw [rs.size]; omega) ?_
  have rx := (r.tr' t₂).tr' t₃
  have hset : VRs (H₁ ++ (a, xs) :: H₂) h₃ (xs.set k.toNat x) (ws.setIfInBounds k.toNat v).toList := by
    simpa using rs.set rx k.toNat
  obtain ⟨a', H', h', tk', eq, pp, rr, hr', t'⟩ := Post.changed (s := { s with heap := h₃, toks := tk₃ }) (f := fun y => y.setIfInBounds k.toNat v) (av := .none) (v := .none) (tk := tk₃) (P := fun _ H' => P .next l H') hr₃ e hset .none p₃
  rw [eq]
  have T := ((t₁.trans' t₂).trans' t₃).trans' t'
  exact ⟨.next, l, H', h', tk', rfl, pp, trivial, hr', F.tr T, T.up⟩
end
end Mine
namespace Mine
open PySem PySem.W PySem.Calls PyProof.Rows PySem.Spec PySem.SeqAt

structure MisC (M : Model) (h : Heap) (C : Addr) : Prop where
  iter : Looks M h (typeLookup (.ref C) (Str.ofString "__iter__")) (some (.builtin "tuple.__iter__"))
  len : Looks M h (typeLookup (.ref C) (Str.ofString "__len__")) (some (.builtin "tuple.__len__"))
  tup : Looks M h (isSubtype (.ref C) (.type "tuple")) true
theorem MisC.keeps {M : Model} {h h' : Heap} {C : Addr} (x : MisC M h C) (k : ∀ b o, h.get? b = some o → h'.get? b = some o) : MisC M h' C := ⟨x.iter.keeps k, x.len.keeps k, x.tup.keeps k⟩
theorem ti_kind : builtinKind "tuple.__iter__" = some .slot := by decide +kernel
theorem ti_split : splitId "tuple.__iter__" = some ("tuple", "__iter__") := by decide +kernel
theorem ti_plain : plainId "tuple.__iter__" = true := by decide +kernel
theorem tl_kind : builtinKind "tuple.__len__" = some .slot := by decide +kernel
theorem tl_split : splitId "tuple.__len__" = some ("tuple", "__len__") := by decide +kernel
theorem tl_plain : plainId "tuple.__len__" = true := by decide +kernel

section
variable {prog : Program} {w : World} {A : Around} {E : Value → Shared → Prop} {C a : Addr} {o : Obj} {vs : Array Value} {n : Nat} {h : Heap} {g : Array GenState} {d : Drawn} {t : Nat} {os : OsState}
theorem mis_type (hx : h.get? a = some o) (hc : o.cls = .ref C) : Looks (model prog w) h (typeOf (.ref a)) (.ref C) := by
  have := (Looks.ld (M := model prog w) (part := none) hx).andThen (f := fun o => pure o.cls) .now
  rw [hc] at this
  exact this
theorem mis_inst (X : MisC (model prog w) h C) (hx : h.get? a = some o) (hc : o.cls = .ref C) : Looks (model prog w) h (isInstance (.ref a) (.type "tuple")) true := (mis_type hx hc).andThen X.tup
theorem bind_ti (self : Value) : bindSpecial (.builtin "tuple.__iter__") self = pure (.builtin "tuple.__iter__", [self]) := F.slot_tuple_iter.bind self
theorem bind_tl (self : Value) : bindSpecial (.builtin "tuple.__len__") self = pure (.builtin "tuple.__len__", [self]) := F.slot_tuple_len.bind self
end
section
variable {prog : Program} {w : World} {A : Around} {E : Value → Shared → Prop} {C a : Addr} {o : Obj} {vs : Array Value} {n : Nat} {s : Shared}
theorem call_ti {Q : Value → Shared → Prop} (X : MisC (model prog w) s.heap C) (hx : s.heap.get? a = some o) (hc : o.cls = .ref C)
    (hq : Q (.ref s.heap.objs.size) { s with heap := s.heap.push { cls := .type "tuple_iterator", data := .fields #[.ref a, .int 0 0] } }) : wpAny (model prog w) A (call (.builtin "tuple.__iter__") [.ref a]) Q E s := by
  refine wpAny_call (codeAny_call_builtin ti_plain F.entry_tuple_iter (check_slot (M := model prog w) (i := "tuple.__iter__") (owner := "tuple") (n := "__iter__") (self := .ref a) (rest := []) (kw := []) ti_kind ti_split (mis_inst X hx hc) (F.args_tuple_iter_1 (.ref a)) ?_))
  show wpAny _ _ (do ret (← newFields "tuple_iterator" [.ref a, rawInt 0])) _ _ s
  refine wpAny_bind (wpAny_newObj_type ?_)
  exact wpAny_pure hq
theorem pyIter_mis {Q : Value → Shared → Prop} (X : MisC (model prog w) s.heap C) (hx : s.heap.get? a = some o) (hc : o.cls = .ref C)
    (hq : Q (.ref s.heap.objs.size) { s with heap := s.heap.push { cls := .type "tuple_iterator", data := .fields #[.ref a, .int 0 0] } }) : wpAny (model prog w) A (pyIter (.ref a)) Q E s := by
  have S : Looks (model prog w) s.heap (specialOf (.ref a) (Str.ofString "__iter__")) (some (.builtin "tuple.__iter__")) := (mis_type hx hc).andThen X.iter
  unfold pyIter
  refine wpAny_bind (S.here ?_)
  dsimp only
  have one : wpAny (model prog w) A (callSpecialIfBoundUnlessNone? (.ref a) (Str.ofString "__iter__") (do rule "iter.none"; raiseError "TypeError" s!"'{← typeNameOf (.ref a)}' object is not iterable")) (fun r s' => r = some (.ref s.heap.objs.size) ∧ s' = { s with heap := s.heap.push { cls := .type "tuple_iterator", data := .fields #[.ref a, .int 0 0] } }) E s := by
    simp only [callSpecialIfBoundUnlessNone?, bindSpecialIfBound?]
    refine wpAny_holding (wpAny_bind (wpAny_bind (S.here ?_)))
    simp only [bind_ti]
    refine wpAny_bind (wpAny_askSetting (wpAny_ite ?_))
    split
    · refine wpAny_bind (wpAny_pure (wpAny_pure ?_))
      simp only [builtin_beq_none, Bool.false_eq_true, if_false]
      exact wpAny_bind (call_ti X hx hc (wpAny_pure ⟨rfl, rfl⟩))
    · refine wpAny_tryCatch (wpAny_bind (wpAny_pure (wpAny_pure ?_)))
      simp only [builtin_beq_none, Bool.false_eq_true, if_false]
      exact wpAny_bind (call_ti X hx hc (wpAny_pure ⟨rfl, rfl⟩))
  refine wpAny_bind (wpAny_mono one (fun r s' q => ?_) fun _ _ e => e)
  obtain ⟨rfl, rfl⟩ := q
  dsimp only
  refine wpAny_bind (wpAny_specialOf (T := "tuple_iterator") ⟨_, Heap.get?_push_size _ rfl, rfl⟩ F.slot_tuple_iterator_next.lookup ?_)
  exact wpAny_pure hq

theorem pyNext_seq_item {it : Addr} {i : Nat} {x : Value} {Q : Option Value → Shared → Prop} (hit : s.heap.IsTupleIter it a i)
    (ho' : s.heap.get? a = some o) (hd' : o.data = .seq vs n) (hx : vs[i]? = some x)
    (hQ : ∀ h', h'.IsTupleIter it a (i + 1) → Heap.SameBut it s.heap h' → Q (some x) { s with heap := h' }) :
    wpAny (model prog w) A (pyNext (.ref it)) Q E s := by
  obtain ⟨ob, ho, hc, hd⟩ := id hit
  unfold pyNext
  refine wpAny_bind (wpAny_attempt (wpAny_callSpecial?_slot (name := Str.ofString "__next__") hit.typeIs F.slot_tuple_iterator_next
    (wpAny_call_entry F.slot_tuple_iterator_next hit.typeIs F.entry_tuple_iterator_next ?_ (F.args_tuple_iterator_next_1 _))))
  show wpAny _ _ (field (.ref it) 0 >>= _) _ _ s
  refine wpAny_bind (wpAny_field ho hd (x := .ref a) rfl ?_)
  show wpAny _ _ (if (Value.ref a == Value.none) = true then _ else _) _ _ s
  rw [if_neg (show ¬ ((Value.ref a == Value.none) = true) from Bool.false_ne_true)]
  show wpAny _ _ (field (.ref it) 1 >>= _) _ _ s
  refine wpAny_bind (wpAny_field ho hd (x := .int i 0) rfl ?_)
  show wpAny _ _ (seqItems? (.ref a) >>= _) _ _ s
  refine wpAny_bind (wpAny_seqItems ho' hd' ?_)
  simp only [Int.toNat_natCast, hx]
  refine wpAny_bind (wpAny_setField ho hd (by simp) (wpAny_pure ⟨x, rfl, wpAny_pure (hQ _ ?_ (Heap.SameBut.update ..))⟩))
  exact ⟨_, Heap.get?_update_self _ ho (Obj.isFreed_of_fields (Obj.data_mapFields hd _)), (Obj.cls_mapFields ..).trans hc, by
    rw [Obj.data_mapFields hd]; simp [rawInt]⟩
theorem pyNext_seq_end {it : Addr} {i : Nat} {Q : Option Value → Shared → Prop} (hh : A.handled = none) (hit : s.heap.IsTupleIter it a i)
    (ho' : s.heap.get? a = some o) (hd' : o.data = .seq vs n) (hx : vs[i]? = none)
    (hQ : ∀ h', Heap.ExtBut it s.heap h' → Q none { s with heap := h' }) : wpAny (model prog w) A (pyNext (.ref it)) Q E s := by
  obtain ⟨ob, ho, hc, hd⟩ := id hit
  unfold pyNext
  refine wpAny_bind (wpAny_attempt (wpAny_callSpecial?_slot (name := Str.ofString "__next__") hit.typeIs F.slot_tuple_iterator_next
    (wpAny_call_entry F.slot_tuple_iterator_next hit.typeIs F.entry_tuple_iterator_next ?_ (F.args_tuple_iterator_next_1 _))))
  show wpAny _ _ (field (.ref it) 0 >>= _) _ _ s
  refine wpAny_bind (wpAny_field ho hd (x := .ref a) rfl ?_)
  show wpAny _ _ (if (Value.ref a == Value.none) = true then _ else _) _ _ s
  rw [if_neg (show ¬ ((Value.ref a == Value.none) = true) from Bool.false_ne_true)]
  show wpAny _ _ (field (.ref it) 1 >>= _) _ _ s
  refine wpAny_bind (wpAny_field ho hd (x := .int i 0) rfl ?_)
  show wpAny _ _ (seqItems? (.ref a) >>= _) _ _ s
  refine wpAny_bind (wpAny_seqItems ho' hd' ?_)
  simp only [Int.toNat_natCast, hx]
  refine wpAny_bind (wpAny_rule (wpAny_bind (wpAny_setField ho hd (by simp) ?_)))
  show wpAny _ _ (newExc (.type "StopIteration") [] >>= _) _ _ _
  refine wpAny_bind ?_
  simp only [newExc, newTuple]
  refine wpAny_bind (wpAny_newObj_type ?_ (by size_fits))
  refine wpAny_bind (m := firstArgMember _ _) (wpAny_of_eq (a := Value.none) (by first | rfl | (simp only [firstArgMember]; rfl)) ?_)
  refine wpAny_newObj_type ?_ (by size_fits)
  simp only [raiseNew]
  refine wpAny_bind (wpAny_handled ?_)
  first | rw [show A.in1.handled = none from hh] | rw [hh]
  refine wpAny_bind (wpAny_pure (wpAny_throw ?_))
  refine wpAny_bind (wpAny_isInstance (T := "StopIteration") (b := true) ⟨_, Heap.get?_push_size _ rfl, rfl⟩ isSubtype_stop ?_)
  exact wpAny_pure (hQ _ (((Heap.SameBut.update ..).extBut.push _).push _))

theorem walksSeq (hh : A.handled = none) (I a : Addr) (hne : a ≠ I) (o : Obj) (vs : Array Value) (n : Nat) (hd : o.data = .seq vs n) :
    Walks prog w A I [I, a] [I] vs.size (fun i v => vs[i]? = some v) (fun i h => h.IsTupleIter I a i ∧ h.get? a = some o) where
  sub := fun b hb => by simp at hb; simp [hb]
  frame := fun _ _ _ st hk => ⟨st.1.at fun o e => hk I (by simp) o e, hk a (by simp) _ st.2⟩
  item := fun i s Q E hi st hQ => by
    refine pyNext_seq_item st.1 st.2 hd (x := vs[i]) (by simp [hi]) fun h' hit' hs' => ?_
    exact hQ _ h' s.toks (by simp [hi]) ⟨hit', hs'.extBut a o hne st.2⟩ fun b o hb e => hs'.extBut b o (fun h => hb (by simp [h])) e
  done := fun s Q E st hQ => pyNext_seq_end hh st.1 st.2 hd (by simp) fun h' he' => hQ h' s.toks fun b o hb e => he' b o (fun h => hb (by simp [h])) e
  self := fun _ _ _ _ st hQ => wpAny_pyIter_tupleiter st.1 hQ
theorem len_mis {Q : Value → Shared → Prop} (X : MisC (model prog w) s.heap C) (hx : s.heap.get? a = some o) (hc : o.cls = .ref C) (hd : o.data = .seq vs n) (hsz : vs.size < 100000)
    (hq : ∀ k u, Q (.int vs.size u) { s with toks := k }) : wpAny (model prog w) A (call (.builtin "len") [.ref a]) Q E s := by
  have S : Looks (model prog w) s.heap (specialOf (.ref a) (Str.ofString "__len__")) (some (.builtin "tuple.__len__")) := (mis_type hx hc).andThen X.len
  refine call_function_entry kind_len plain_len entry_len (args_len1 _) ?_
  unfold Builtin.«len»
  refine wpAny_bind (m := oneArg "len" _) (wpAny_pure ?_)
  have one : wpAny (model prog w) A.in1 (callSpecial? (.ref a) (Str.ofString "__len__")) (fun r s' => r = some (.int vs.size s.toks) ∧ s' = { s with toks := s.toks + 1 }) E s := by
    simp only [callSpecial?]
    refine wpAny_bind (S.here ?_)
    simp only [bind_tl]
    refine wpAny_holding (wpAny_bind (wpAny_pure (wpAny_bind ?_)))
    refine wpAny_call (codeAny_call_builtin tl_plain F.entry_tuple_len (check_slot (M := model prog w) (i := "tuple.__len__") (owner := "tuple") (n := "__len__") (self := .ref a) (rest := []) (kw := []) tl_kind tl_split (mis_inst X hx hc) (F.args_tuple_len_1 (.ref a)) ?_))
    show wpAny _ _ (Builtin.Tuple.tupleItemsOf (.ref a) >>= fun xs => retInt xs.size) _ _ s
    unfold Builtin.Tuple.tupleItemsOf
    refine wpAny_bind (wpAny_bind (wpAny_seqItems hx hd ?_))
    refine wpAny_pure ?_
    exact wpAny_bind (wpAny_mkInt (wpAny_pure (wpAny_pure ⟨rfl, rfl⟩)))
  refine wpAny_bind (m := callSpecial? (.ref a) (Str.ofString "__len__")) (wpAny_mono one (fun r s' q => ?_) fun _ _ e => e)
  obtain ⟨rfl, rfl⟩ := q
  refine wpAny_bind (wpAny_holding (wpAny_pure ?_))
  refine wpAny_bind (wpAny_letGo ?_)
  show wpAny _ _ (if ((vs.size : Nat) : Int) < 0 then _ else _) _ _ _
  rw [if_neg (by omega)]
  show wpAny _ _ (if ((vs.size : Nat) : Int) ≥ 2 ^ 63 then _ else _) _ _ _
  rw [if_neg (by omega)]
  exact wpAny_bind (wpAny_mkInt (wpAny_pure ⟨_, rfl, hq _ _⟩))


theorem hint_mis {Q : Bool → Shared → Prop} (X : MisC (model prog w) s.heap C) (hx : s.heap.get? a = some o) (hc : o.cls = .ref C) (hd : o.data = .seq vs n) (hsz : vs.size < 100000)
    (h0 : vs.size ≠ 0) (hq : ∀ k, Q true { s with toks := k }) : wpAny (model prog w) A (Builtin.List.listLengthHint (.ref a)) Q E s := by
  have S : Looks (model prog w) s.heap (specialOf (.ref a) (Str.ofString "__len__")) (some (.builtin "tuple.__len__")) := (mis_type hx hc).andThen X.len
  have I := mis_inst X hx hc
  unfold Builtin.List.listLengthHint
  refine wpAny_bind (S.here ?_)
  generalize hid : ("tuple.__len__" : String) = id0
  wp_delta
  rw [show splitId id0 = some ("tuple", "__len__") from by subst hid; exact tl_split]
  subst hid
  refine wpAny_bind (I.here ?_)
  show wpAny _ A (typeOf (Value.ref a) >>= _) _ _ _
  refine wpAny_bind ((mis_type hx hc).here ?_)
  refine wpAny_bind (len_mis X hx hc hd hsz fun k u => ?_)
  refine wpAny_pure ?_
  have e : ((vs.size : Int) != 0) = true := by simpa using h0
  rw [e]
  exact hq k

theorem collect_mis {Q : List Value → Shared → Prop} (hh : A.handled = none) (X : MisC (model prog w) s.heap C) (hx : s.heap.get? a = some o) (hc : o.cls = .ref C) (hd : o.data = .seq vs n) (hsz : vs.size < 100000) (h0 : vs.size ≠ 0)
    (hQ : ∀ h' tk, (∀ b o, s.heap.get? b = some o → h'.get? b = some o) → Q vs.toList { s with heap := h', toks := tk }) : wpAny (model prog w) A (collect (.ref a)) Q E s := by
  unfold collect
  refine wpAny_bind (wpAny_runValue (codeAny_builtin F.entry_proto_collect ?_))
  rw [Around.under_plainId F.plain_proto_collect _]
  show wpAny _ A.in1 (newList [] >>= fun l => again (.builtin "list.__iadd__" ⟨[l, .ref a], []⟩)) _ _ s
  refine wpAny_bind (wpAny_newObj_type ?_)
  refine wpAny_pure ⟨plainId_quiet F.plain_list_iadd _, codeAny_builtin F.entry_list_iadd ?_⟩
  rw [Around.under_plainId F.plain_list_iadd _]
  show wpAny _ A.in1 (Builtin.List.listExtendWith (.ref s.heap.objs.size) (.ref a) (.ref s.heap.objs.size)) _ _ _
  unfold Builtin.List.listExtendWith
  generalize hH : s.heap.push { cls := .type "list", data := .seq ([] : List Value).toArray } = H
  have kp : ∀ b ob, s.heap.get? b = some ob → H.get? b = some ob := fun b ob e => hH ▸ Heap.get?_push_of_some _ e
  have hHs : H.objs.size = s.heap.objs.size + 1 := by rw [← hH, Heap.size_push]
  have hS : H.get? s.heap.objs.size = some (lob #[] 0) := hH ▸ Heap.get?_push_size _ rfl
  have X' := X.keeps kp
  have hx' := kp _ _ hx
  have haS : a ≠ s.heap.objs.size := Nat.ne_of_lt (Heap.lt_size hx)
  refine wpAny_bind ((mis_type hx' hc).here ?_)
  have h1 : Builtin.List.listSameRef (.ref s.heap.objs.size) (.ref a) = false := by simp [Builtin.List.listSameRef, Ne.symm haS]
  have h2 : (Value.ref C == Value.type "list") = false := by rfl
  have h3 : (Value.ref C == Value.type "tuple") = false := by rfl
  simp only [h1, h2, h3, Bool.or_false, Bool.false_eq_true, if_false]
  refine wpAny_bind (pyIter_mis X' hx' hc ?_)
  refine wpAny_bind (wpAny_holding ?_)
  generalize hH2 : H.push { cls := .type "tuple_iterator", data := .fields #[.ref a, .int 0 0] } = H2
  have kp2 : ∀ b ob, H.get? b = some ob → H2.get? b = some ob := fun b ob e => hH2 ▸ Heap.get?_push_of_some _ e
  have hI : H2.IsTupleIter H.objs.size a 0 := ⟨_, hH2 ▸ Heap.get?_push_size _ rfl, rfl, rfl⟩
  have hS2 := kp2 _ _ hS
  refine hint_mis (X'.keeps kp2) (kp2 _ _ hx') hc hd hsz h0 fun k => ?_
  show wpAny _ A.in1 (rule "list.extend.makes-room" >>= fun _ => Builtin.List.listTouch (.ref s.heap.objs.size) >>= fun _ =>
    again (.builtin "list.extend.loop" ⟨[.ref s.heap.objs.size, .ref H.objs.size, .ref s.heap.objs.size], []⟩)) _ _ _
  refine wpAny_bind (wpAny_rule ?_)
  refine wpAny_bind ?_
  show wpAny _ A.in1 (updateSeq s.heap.objs.size (·.push .none) >>= fun _ => updateSeq s.heap.objs.size (·.pop)) _ _ _
  refine wpAny_bind (wpAny_updateSeq hS2 rfl ?_)
  have hS₂ := Heap.get?_update_self (Obj.mapSeq (·.push Value.none)) hS2 rfl
  refine wpAny_updateSeq hS₂ rfl ?_
  have hS₃ := Heap.get?_update_self (Obj.mapSeq (·.pop)) hS₂ rfl
  have oth : ∀ b ob, b ≠ s.heap.objs.size → H2.get? b = some ob →
      ((H2.update s.heap.objs.size (Obj.mapSeq (·.push Value.none))).update s.heap.objs.size (Obj.mapSeq (·.pop))).get? b = some ob :=
    fun b ob hb e => (Heap.get?_update_other _ _ (Ne.symm hb)).trans ((Heap.get?_update_other _ _ (Ne.symm hb)).trans e)
  have hIne : H.objs.size ≠ s.heap.objs.size := by rw [hHs]; exact Nat.succ_ne_self _
  have haI : a ≠ H.objs.size := Nat.ne_of_lt (Heap.lt_size hx')
  have hSf : s.heap.objs.size ∉ [H.objs.size, a] := fun hm => by
    rcases List.mem_cons.mp hm with q | q
    · exact hIne q.symm
    · exact haS (List.mem_singleton.mp q).symm
  obtain ⟨oi, hoi, hci, hdi⟩ := hI
  refine wpAny_pure ⟨plainId_quiet F.plain_extend_loop _, codeAny_extend_loopS (walksSeq (A := A.in1) hh H.objs.size a haI o vs n hd).toS (by rw [sizeLine_eq]; omega) _ hSf _ vs.size 0 _ _ _ rfl (Nat.zero_le _)
    ⟨⟨oi, oth _ _ hIne hoi, hci, hdi⟩, oth _ _ haS (kp2 _ _ hx')⟩ hS₃ (ItemsOf.nil _) fun s' acc' c' hm hS' hacc => ?_⟩
  show wpAny _ A (load s.heap.objs.size >>= _) _ _ s'
  refine wpAny_bind (wpAny_load hS' ?_)
  have eacc : acc'.toList = vs.toList := by
    apply List.ext_getElem?
    intro i
    cases q : acc'.toList[i]? with
    | some v => exact (by simpa using (hacc.2 i v (by simpa using q)).symm)
    | none =>
      have : acc'.size ≤ i := by simpa using q
      rw [hacc.1] at this
      simp [this]
  have es' : s' = { s with heap := s'.heap, toks := s'.toks } := by
    obtain ⟨h', g', d', t', o'⟩ := s'
    have h1 : g' = s.gens := hm.gens
    have h2 : d' = s.drawn := hm.drawn
    have h3 : o' = s.os := hm.os
    rw [h1, h2, h3]
  refine wpAny_pure ?_
  show Q acc'.toList s'
  rw [eacc, es']
  refine hQ s'.heap s'.toks fun b ob e => hm.heap b ob (fun hb => ?_) (oth b ob (Nat.ne_of_lt (Heap.lt_size e)) (kp2 _ _ (kp _ _ e)))
  have hlt := Heap.lt_size e
  rcases List.mem_cons.mp hb with q | q
  · exact absurd hlt (q ▸ Nat.lt_irrefl _)
  · rw [List.mem_singleton.mp q, hHs] at hlt; exact absurd hlt (Nat.not_lt.mpr (Nat.le_succ _))

theorem meets_tuple_new_mis (C a : Addr) (o : Obj) (vs : Array Value) (n : Nat) (hc : o.cls = .ref C) (hd : o.data = .seq vs n) (hsz : vs.size < 100000) (h0 : vs.size ≠ 0) {R : Result → Shared → Prop} (hh : A.handled = none) (X : MisC (model prog w) s.heap C) (hx : s.heap.get? a = some o)
    (h : ∀ h' : Heap, ∀ tk, (∀ b o', s.heap.get? b = some o' → h'.get? b = some o') → R (.ok (.ret (.ref h'.objs.size))) { s with heap := h'.push (tob vs 0), toks := tk }) :
    wpAny (model prog w) A.in1 (Builtin.«tuple.__new__» ⟨[.type "tuple", .ref a], []⟩) (fun fin s' => match fin with | .done f => R (.ok f) s' | .again c' => c'.quiet = true ∧ codeAny (model prog w) A c' R s') (fun e s' => R (.error e) s') s := by
  obtain ⟨hp, g, d, tk, os⟩ := s
  have hsub := sub_tuple_self
  have hinit := init_tuple_lookup
  have hmh := madeHere_tuple
  have T := mis_type (prog := prog) (w := w) hx hc
  unfold Builtin.«tuple.__new__»
  repeat (any_goals (first | assumption | with_reducible refine Looks.at (by assumption) ?_ | (with_reducible refine collect_mis (A := A.in1) hh X hx hc hd hsz h0 ?_) | wp_step))
  intro h' tk' kp
  show wpAny _ _ (Builtin.Tuple.tupleExact vs.toList.toArray >>= fun v => ret v) _ _ _
  unfold Builtin.Tuple.tupleExact
  refine wpAny_bind (wpAny_newObj_type ?_ (by show vs.toList.toArray.size ≤ sizeLine; rw [sizeLine_eq]; simp; omega))
  have e : vs.toList.toArray = vs := by simp
  rw [e]
  exact wpAny_pure (h h' tk' kp)
theorem call_tuple_mis {Q : Value → Shared → Prop} (hh : A.handled = none) (X : MisC (model prog w) s.heap C) (hx : s.heap.get? a = some o) (hc : o.cls = .ref C) (hd : o.data = .seq vs n) (hsz : vs.size < 100000) (h0 : vs.size ≠ 0)
    (h : ∀ h' : Heap, ∀ tk, (∀ b o', s.heap.get? b = some o' → h'.get? b = some o') → Q (.ref h'.objs.size) { s with heap := h'.push (tob vs 0), toks := tk }) : wpAny (model prog w) A (call (.type "tuple") [.ref a]) Q E s := by
  refine callType_codes (Q₁ := fun obj s₁ => ∃ (h' : Heap) (tk : Nat), (∀ b o', s.heap.get? b = some o' → h'.get? b = some o') ∧ obj = .ref h'.objs.size ∧ s₁ = { s with heap := h'.push (tob vs 0), toks := tk }) F.called_tuple (F.typeCall_tuple_1 _) F.entry_object_init
    (codeAny_call_builtin F.plain_tuple_new F.entry_tuple_new (wpAny_of_eq (F.newCall_tuple_1 _) (meets_tuple_new_mis (A := A.in1) C a o vs n hc hd hsz h0 hh X hx fun h' tk kp => ⟨h', tk, kp, rfl, rfl⟩))) fun obj s₁ q => ?_
  obtain ⟨h', tk, kp, rfl, rfl⟩ := q
  have hT : ({ s with heap := h'.push (tob vs 0), toks := tk } : Shared).TypeIs (.ref h'.objs.size) "tuple" := ⟨_, Heap.get?_push_size _ rfl, rfl⟩
  refine ⟨hT, F.args_object_init_2 _ _, ?_⟩
  exact object_init_meets F.called_tuple.init.lookup F.called_tuple.made (by decide) prog w A.in1 (wants (fun r s₂ => r = .none ∧ Q (.ref h'.objs.size) s₂) E) _ ⟨hT, rfl, h h' tk kp⟩
end

section
variable {prog : Program} {w : World} {B : GB} {A : Around} {H : HP} {P : AV → HP → Prop}
theorem op_tupleMis {C : Addr} {xs : List AV} (hh : A.handled = none) (X : MisC (model prog w) B.heap C) (hsz : xs.length ≤ 1000) (h0 : xs ≠ []) (p : P (.tup xs) H) : OP prog w B A H [.mis C xs] (cl (.type "tuple")) P := opc1 fun s E v hr r => by
  cases r with
  | mis e c d rs =>
    rename_i vs n
    have hs := rs.size
    have hl : 0 < xs.length := List.length_pos_iff.mpr h0
    refine call_tuple_mis hh (X.keeps hr.keep) e c d (by omega) (by omega) fun h' tk kp => ?_
    have kp' : ∀ b o', s.heap.get? b = some o' → (h'.push (tob vs 0)).get? b = some o' := fun b o' q => Heap.get?_push_of_some _ (kp b o' q)
    exact Post.grown kp' p (.tup (Heap.get?_push_size _ rfl) (rs.tr' (.keeps kp'))) hr
end
end Mine
namespace Mine
open PySem PySem.W PySem.Calls PyProof.Rows PySem.Spec PySem.SeqAt

structure MisN (M : Model) (h : Heap) (C f : Addr) : Prop extends MisC M h C where
  obj : ∃ oc od cd sl, h.get? C = some ⟨oc, od, .cls cd, sl⟩ ∧ cd.hasDel = false
  mro : Looks M h (mroOf (.ref C)) [.ref C, .type "tuple", .type "object"]
  made : Looks M h (Bind.madeBy (.ref C)) none
  base : Looks M h (Bind.staticBase (.ref C)) (.type "tuple")
  self : Looks M h (isSubtype (.ref C) (.ref C)) true
  top : Looks M h (isSubtype (.ref C) (.type "object")) true
  call : Looks M h (specialOf (.ref C) (Str.ofString "__call__")) (some (.builtin "type.__call__"))
  typ : Looks M h (isInstance (.ref C) (.type "type")) true
  init : Looks M h (typeLookup (.ref C) (Str.ofString "__init__")) (some (.builtin "object.__init__"))
  new : ∀ (A : Around) (Q : Value → Shared → Prop) (E : Value → Shared → Prop) (s : Shared), (∀ b o, h.get? b = some o → s.heap.get? b = some o) → Q (.ref f) { s with toks := s.toks + 1 } → wpAny M A (getAttr (.ref C) (Str.ofString "__new__")) Q E s
theorem MisN.keeps {M : Model} {h h' : Heap} {C f : Addr} (x : MisN M h C f) (k : ∀ b o, h.get? b = some o → h'.get? b = some o) : MisN M h' C f where
  toMisC := x.toMisC.keeps k
  obj := let ⟨oc, od, cd, sl, e, r⟩ := x.obj; ⟨oc, od, cd, sl, k _ _ e, r⟩
  mro := x.mro.keeps k
  made := x.made.keeps k
  base := x.base.keeps k
  self := x.self.keeps k
  top := x.top.keeps k
  call := x.call.keeps k
  typ := x.typ.keeps k
  init := x.init.keeps k
  new := fun A Q E s k' q => x.new A Q E s (fun b o e => k' _ _ (k _ _ e)) q

section
variable {prog : Program} {w : World} {A : Around} {E : Value → Shared → Prop} {C f a : Addr} {h : Heap} {g : Array GenState} {d : Drawn} {t : Nat} {os : OsState} {R : Result → Shared → Prop}
theorem madeHere_mis (X : MisN (model prog w) h C f) : Looks (model prog w) h (Bind.madeHere "tuple.__new__" (.ref C)) () := by
  unfold Bind.madeHere
  refine X.base.andThen ((Looks.of_pure F.called_tuple.made).andThen (Looks.of_pure ?_))
  first | rfl | kernel_rfl | (simp; rfl)
theorem new_mis {vs : Array Value} {n : Nat} {Q : Value → Shared → Prop} (X : MisN (model prog w) h C f) (hx : h.get? a = some (tob vs n)) (hsz : vs.size ≤ 1000)
    (hq : ∀ (h' : Heap) tk (o : Obj), (∀ b o', h.get? b = some o' → h'.get? b = some o') → o.cls = .ref C → o.data = .seq vs 0 → o.isFreed = false → Q (.ref h'.objs.size) ⟨h'.push o, g, d, tk, os⟩) :
    wpAny (model prog w) A (call (.builtin "tuple.__new__") [.ref C, .ref a]) Q E ⟨h, g, d, t, os⟩ := by
  have hm := madeHere_mis X
  obtain ⟨⟨it, le, tup⟩, ⟨oc, od, cd, sl, hC, hdel⟩, mro, made, base, self, top, cal, typ, ini, new⟩ := X
  have mt : Looks (model prog w) h (Bind.madeBy (.type "tuple")) (some "tuple.__new__") := Looks.of_pure F.called_tuple.made
  have hk : builtinKind "tuple.__new__" = some .builtinFn := by decide +kernel
  have hs : splitId "tuple.__new__" = some ("tuple", "__new__") := by decide +kernel
  refine wpAny_call (codeAny_call_builtin_code (Code.quiet_builtin _ (by decide +kernel)) ?_)
  have hca : (Manifest.canonical "tuple.__new__" != Manifest.canonical "tuple.__new__") = false := bne_self_eq_false _
  simp only [checkBuiltinCall, hk, hs]
  repeat (first | simp only [hca, bne_self_eq_false, Bool.false_eq_true, if_false] | lk)
  refine codeAny_builtin F.entry_tuple_new ?_
  rw [Around.under_plainId F.plain_tuple_new _]
  unfold Builtin.«tuple.__new__»
  repeat (first | simp only [hca, bne_self_eq_false, Bool.false_eq_true, if_false] | (with_reducible refine wpAny_collect_seq (s := ⟨h, g, d, t, os⟩) a (.inr rfl) hx rfl rfl ?_ (by rw [sizeLine_eq]; omega)) | lk)
  intro h' kp
  have kp : ∀ b o', h.get? b = some o' → h'.get? b = some o' := kp
  refine wpAny_bind (wpAny_pure (wpAny_bind (wpAny_alloc (wpAny_bind ?_))))
  have hC' : ((h'.push { cls := .type "dict", data := .dict #[] }).push { cls := .ref C, dict := some h'.objs.size, data := .seq vs.toList.toArray }).get? C = some ⟨oc, od, .cls cd, sl⟩ := Heap.get?_push_of_some _ (Heap.get?_push_of_some _ (kp _ _ hC))
  have hsz' : ¬ (vs.toList.toArray.size > sizeLine) := by rw [sizeLine_eq]; simp; omega
  unfold newObj
  simp only [hsz', if_false]
  unfold newObjAsIs classHasDel
  repeat (first | simp only [hdel, Bool.false_eq_true, if_false] | lk)
  exact hq (h'.push { cls := .type "dict", data := .dict #[] }) t { cls := .ref C, dict := some h'.objs.size, data := .seq vs.toList.toArray } (fun b o' e => Heap.get?_push_of_some _ (kp _ _ e)) rfl (by simp) rfl
theorem args_object_init_4 (a b c d : Value) : argsOk "object.__init__" ⟨[a, b, c, d], []⟩ := by
  unfold argsOk; rw [signature?_of (id := "object.__init__") (n := ['_', '_', 't', 'i', 'n', 'i', '_', '_']) (o := ['t', 'c', 'e', 'j', 'b', 'o']) (by kernel_rfl) F.owner_object]; kernel_rfl
theorem init_mis {x : Addr} {o : Obj} {a b c : Value} {Q : Value → Shared → Prop} (X : MisN (model prog w) h C f) (hx : h.get? x = some o) (hc : o.cls = .ref C) (hq : Q .none ⟨h, g, d, t, os⟩) : wpAny (model prog w) A (call (.builtin "object.__init__") ([.ref x] ++ [a, b, c]) []) Q E ⟨h, g, d, t, os⟩ := by
  show wpAny (model prog w) A (call (.builtin "object.__init__") [.ref x, a, b, c]) Q E ⟨h, g, d, t, os⟩
  have T := mis_type (prog := prog) (w := w) hx hc
  obtain ⟨⟨it, le, tup⟩, ⟨oc, od, cd, sl, hC, hdel⟩, mro, made, base, self, top, cal, typ, ini, new⟩ := X
  refine wpAny_call (codeAny_call_builtin oi_plain entry_oi (check_slot (M := model prog w) (i := "object.__init__") (owner := "object") (n := "__init__") (self := .ref x) (rest := [a, b, c]) (kw := []) oi_kind oi_split (T.andThen top) (args_object_init_4 _ _ _ _) ?_))
  unfold Builtin.«object.__init__»
  repeat (first | simp only [bne_self_eq_false, Bool.false_eq_true, if_false] | lk)
  exact hq
theorem tc_weight (C : Addr) (l : List Value) : (Code.builtin "type.__call__" ⟨.ref C :: l, []⟩).weight = 1 := rfl
theorem tc_units (C : Addr) (l : List Value) : (Code.builtin "type.__call__" ⟨.ref C :: l, []⟩).cUnits = 1 := rfl
theorem call_mis {B : Heap} {a b c : Value} {Q : Value → Shared → Prop} (X₀ : MisN (model prog w) B C f) (kp : ∀ b o, B.get? b = some o → h.get? b = some o)
    (hnew : ∀ (A' : Around) (E' : Value → Shared → Prop) (tk : Nat), A'.handled = A.handled → A'.depth ≤ A.depth + 1 → A'.units ≤ A.units + 4 → codeAny (model prog w) A' (.call (.ref f) ⟨[.ref C, a, b, c], []⟩) (fun r s' => match r with
      | .ok (.ret v) => ∃ (x : Addr) (o : Obj) (h' : Heap) (tk' : Nat), v = .ref x ∧ s' = ⟨h', g, d, tk', os⟩ ∧ h'.get? x = some o ∧ o.cls = .ref C ∧ (∀ b o, B.get? b = some o → h'.get? b = some o) ∧ Q v s'
      | .ok _ => False
      | .error e => E' e s') ⟨h, g, d, tk, os⟩) :
    wpAny (model prog w) A (call (.ref C) [a, b, c]) Q E ⟨h, g, d, t, os⟩ := by
  have X := X₀.keeps kp
  obtain ⟨⟨it, le, tup⟩, ⟨oc, od, cd, sl, hC, hdel⟩, mro, made, base, self, top, cal, typ, ini, new⟩ := X
  refine wpAny_call (codeAny_of_tree ?_)
  show wpAny _ _ (callAny (.ref C) _) _ _ _
  refine nd_load hC ?_
  show wpAny _ _ (callAny.viaDunder (.ref C) _) _ _ _
  unfold callAny.viaDunder
  refine wpAny_bind (cal.at ?_)
  dsimp only
  rw [tc_bind]
  refine wpAny_bind (wpAny_pure (wpAny_bind (wpAny_pure ?_)))
  refine wpAny_pure (a := Fin.again (.call (.builtin "type.__call__") ⟨[.ref C, a, b, c], []⟩)) (And.intro rfl ?_)
  refine codeAny_call_builtin_at (Code.quiet_builtin _ (by decide +kernel)) entry_typeCall (check_slot (M := model prog w) (i := "type.__call__") (owner := "type") (n := "__call__") (self := .ref C) (rest := [a, b, c]) (kw := []) tc_kind tc_split typ (tc_args _ _ _) ?_)
  unfold Builtin.«type.__call__»
  repeat (first | simp only [Bool.false_eq_true, if_false] | (with_reducible refine new _ _ _ _ (fun _ _ e => e) ?_) | with_reducible refine wpAny_call ?_ | lk)
  refine codeAny_mono (hnew _ (fun e s' => E e s') _ rfl (by show A.depth + _ ≤ _; rw [tc_weight]; exact Nat.le_refl _) (by show A.units + _ ≤ _; rw [tc_units]; omega)) fun r s' q => ?_
  rcases r with e | (v | _ | _ | _) <;> first | exact q | exact q.elim | skip
  obtain ⟨x, o, h', tk', rfl, rfl, hx, hc, kp', q⟩ := q
  have X' := X₀.keeps kp'
  have T := mis_type (prog := prog) (w := w) hx hc
  have I : Looks (model prog w) h' (isInstance (.ref x) (.ref C)) true := T.andThen X'.self
  have ini' : Looks (model prog w) h' (specialOf (.ref x) (Str.ofString "__init__")) (some (.builtin "object.__init__")) := T.andThen X'.init
  have Bd : Looks (model prog w) h' (bindSpecial (.builtin "object.__init__") (.ref x)) (.builtin "object.__init__", [.ref x]) := Looks.of_pure (oi_bind _)
  unfold callSpecial?
  repeat (first | simp only [Bool.false_eq_true, if_false] | (with_reducible refine init_mis X' hx hc ?_) | lk)
  exact q
end

section
variable {prog : Program} {w : World} {B : GB} {A : Around} {env : Env} {l : Loc} {H : HP} {P : AV → HP → Prop} {C f : Addr}
theorem ex_callC {x : Str} {px pos : Pos} {e : Expr} {es : List Expr} (X : MisN (model prog w) B.heap C f)
    (h : EX prog w B A env l (.Name x px) H fun a H₁ => a = .val (.ref C) ∧ EL prog w B A env l pos (e :: es) H₁ fun as H₂ => OP prog w B A H₂ as (cl (.ref C)) P)
    (he : starEach (e :: es) env = (false, eval e env) :: starEach es env := by rfl) (hplain : (backTo pos (starEach es env)).any (·.1) = false := by rfl) : EX prog w B A env l (.Call (.Name x px) (e :: es) [] pos) H P := .mk fun s E hr F => by
  refine wpAny_Call_ofName (use (h.run s E hr F) fun a v H₁ h₁ tk₁ p r hr₁ t₁ => ?_)
  obtain ⟨rfl, p⟩ := p
  (first | obtain ⟨_, rfl⟩ := r.sh | obtain rfl := r.sh)
  have p' := p.run { s with heap := h₁, toks := tk₁ } E hr₁ (F.tr t₁)
  rw [he] at p' ⊢
  have hp : (backTo pos ((false, eval e env) :: starEach es env)).any (·.1) = false := by show (false || (backTo pos (starEach es env)).any (·.1)) = false; rw [hplain]; rfl
  unfold callWith
  refine wpAny_bind (wpAny_holding (evalArgs_plain (useL p' fun as vs H₂ h₂ tk₂ p₂ r₂ hr₂ t₂ => wpAny_bind (wpAny_standAt ?_))))
  have X₂ := X.keeps hr₂.keep
  obtain ⟨oc, od, cd, sl, hC, hdel⟩ := X₂.obj
  simp only [hp, List.any_nil, Bool.or_false]
  refine wpAny_bind (m := keeperOf (.ref C)) ?_
  unfold keeperOf
  refine wpAny_bind (wpAny_load hC ?_)
  refine wpAny_bind (X₂.call.here ?_)
  simp only [beq_self_eq_true, if_true]
  refine wpAny_pure ?_
  exact wpAny_bind (wpAny_mono (back (t₁.trans' t₂) (p₂.run { s with heap := h₂, toks := tk₂ } E vs hr₂ r₂)) (fun r s₂ hr => wpAny_bind (wpAny_holding (wpAny_point (wpAny_pure hr)))) fun _ _ x => x)
theorem op_mis {a b c : AV} (X : MisN (model prog w) B.heap C f) (hc : ∀ A' : Around, A'.handled = A.handled → A'.depth ≤ A.depth + 1 → A'.units ≤ A.units + 4 → CF prog w B A' H [.val (.ref C), a, b, c] f fun r H' => r = .mis C [a, b, c] ∧ H' = H) (p : P (.mis C [a, b, c]) H) : OP prog w B A H [a, b, c] (cl (.ref C)) P := .mk fun s E vs hr r => by
  obtain ⟨va, vb, vc, rfl, r1, r2, r3⟩ := r.three
  obtain ⟨h, g, d, t, os⟩ := s
  refine call_mis X hr.keep fun A' E' tk e1 e2 e3 => codeAny_mono ((hc A' e1 e2 e3).run ⟨h, g, d, tk, os⟩ E' [.ref C, va, vb, vc] hr (.cons (.val _) (.cons r1 (.cons r2 (.cons r3 .nil))))) fun r s' q => ?_
  rcases r with e | (v | _ | _ | _) <;> first | exact q | exact q.elim | skip
  obtain ⟨av, H', h', tk', rfl, ⟨rfl, rfl⟩, rv, hr', t'⟩ := q
  cases rv with
  | mis ex cx dx rs =>
    exact ⟨_, _, h', tk', rfl, rfl, ex, cx, hr'.keep, ⟨_, _, h', tk', rfl, p, .mis ex cx dx rs, hr', t'⟩⟩

theorem op_tupleNew {xs : List AV} (X : MisN (model prog w) B.heap C f) (hsz : xs.length ≤ 1000) (p : P (.mis C xs) H) : OP prog w B A H [.val (.ref C), .tup xs] (cl (.builtin "tuple.__new__")) P := opc2 fun s E v u hr r r' => by
  (first | obtain ⟨_, rfl⟩ := r.sh | obtain rfl := r.sh)
  obtain ⟨a, vs, n, rfl, e, rs⟩ := r'.tupInv
  obtain ⟨h, g, d, t, os⟩ := s
  refine new_mis (X.keeps hr.keep) e (by rw [rs.size]; exact hsz) fun h' tk o kp hc hd hf => ?_
  have kp' : ∀ b o', h.get? b = some o' → (h'.push o).get? b = some o' := fun b o' q => Heap.get?_push_of_some _ (kp b o' q)
  exact Post.grown (s := ⟨h, g, d, t, os⟩) kp' p (.mis (Heap.get?_push_size _ hf) hc hd (rs.tr' (.keeps kp'))) hr

theorem type_tuple : typeOf (.type "tuple") = pure (.type "type") := by first | rfl | kernel_rfl
theorem getm_tupleNew {s : Shared} {E : Value → Shared → Prop} {pl : Sem Bool} {Q : Value × List Value → Shared → Prop} (h : Q (.builtin "tuple.__new__", []) { s with toks := s.toks + 1 }) : wpAny (model prog w) A (getMethod (.type "tuple") (Str.ofString "__new__") pl) Q E s := by
  have X : Frag.In ([] : Frag) s.heap := fun _ _ q => nomatch q
  have hstub : opaqueClassAbove (.type "tuple") = pure none := by unfold opaqueClassAbove; dsimp only; rw [show Manifest.isStub "tuple" = false by decide +kernel]; rfl
  have L0 : Looks (model prog w) s.heap (typeOf (.type "tuple")) (.type "type") := Looks.of_pure type_tuple
  have hg : findIn [] (.type "type") "__getattribute__" = some (some (.builtin "type.__getattribute__")) := type_tga
  unfold getMethod specialOf
  refine wpAny_bind (wpAny_bind (L0.here ((looks_findIn X hg).here ?_)))
  dsimp only
  rw [if_pos canon_tga]
  refine wpAny_bind (wpAny_mono (Q := fun v => Q (v, [])) (E := E) ?_ (fun _ _ z => wpAny_pure z) fun _ _ z => z)
  have LO : Looks (model prog w) s.heap (opaqueClassAbove (.type "tuple")) none := Looks.of_pure hstub
  refine cls_open X LO L0 hg (looks_hook X (r := none) (by rfl)) (by show subIn [] _ _ = _; rfl) (r := .val (.builtin "tuple.__new__")) (by first | rfl | kernel_rfl)
    (wpAny_pure (by show wpAny _ _ (handedOut _) _ _ _; rw [handedOut_of (by decide +kernel)]; exact wpAny_pure h))
end
end Mine
namespace Mine
open PySem PySem.W PySem.Calls PyProof.Rows PySem.Spec PySem.SeqAt

section
variable {prog : Program} {w : World} {A : Around} {E : Value → Shared → Prop} {s : Shared} {d : Addr} {f : Int → Option Value}
theorem sub_key_lookup : isSubtype (.type "KeyError") (.type "LookupError") = pure true := by rw [isSubtype_type]; kernel_rfl
theorem look_miss {c : Nat} {Q : Builtin.Str.Mapped → Shared → Prop} (hh : A.handled = none) (hd : (d == sysModules) = false) (hm : s.heap.MapOf (intKind prog w) d f) (hv : f c = none)
    (hQ : ∀ h' tk, (∀ b o, s.heap.get? b = some o → h'.get? b = some o) → Q .keep { s with heap := h', toks := tk }) : wpAny (model prog w) A (Builtin.Str.tableLookup (.ref d) c) Q E s := by
  unfold Builtin.Str.tableLookup
  refine wpAny_bind (wpAny_attempt (wpAny_bind (wpAny_mkInt ?_)))
  refine wpAny_getItem_missing_of (knd := intKind prog w) (k := (c : Int)) (s := { s with toks := s.toks + 1 }) (intKind_is prog w _ _) hd hh hm hv fun h' e hx => ?_
  obtain ⟨kp, hnew, ob, t, he, hc, _⟩ := hx
  refine wpAny_bind (wpAny_isInstance (T := "KeyError") (b := true) ⟨ob, he, hc⟩ sub_key_lookup ?_)
  simp only [if_true]
  exact wpAny_bind (wpAny_rule (wpAny_pure (hQ h' _ kp)))
theorem look_text {c : Nat} {x : Str} {t : Tok} {Q : Builtin.Str.Mapped → Shared → Prop} (hm : s.heap.MapOf (intKind prog w) d f) (hv : f c = some (.str x t))
    (hQ : ∀ tk, Q (.text x) { s with toks := tk }) : wpAny (model prog w) A (Builtin.Str.tableLookup (.ref d) c) Q E s := by
  unfold Builtin.Str.tableLookup
  refine wpAny_bind (wpAny_attempt (wpAny_bind (wpAny_mkInt ?_)))
  refine wpAny_getItem_of (knd := intKind prog w) (k := (c : Int)) (s := { s with toks := s.toks + 1 }) (intKind_is prog w _ _) hm hv ?_
  wp_walk
  exact hQ _
theorem translate_miss {c : Nat} {t : Tok} {Q : Value → Shared → Prop} (hc : c < 128) (hh : A.handled = none) (hd : (d == sysModules) = false) (hm : s.heap.MapOf (intKind prog w) d f) (hv : f c = none)
    (hQ : ∀ h' tk u, (∀ b o, s.heap.get? b = some o → h'.get? b = some o) → Q (.str ⟨#[c]⟩ u) { s with heap := h', toks := tk }) : wpAny (model prog w) A (call (.builtin "str.translate") [.str ⟨#[c]⟩ t, .ref d]) Q E s := by
  refine wpAny_call_entry F.slot_str_translate (typeIs_str _ _ _) F.entry_str_translate ?_ (F.args_str_translate_2 _ _)
  obtain ⟨hp, g, dr, tk, os⟩ := s
  unfold Builtin.«str.translate»
  repeat (any_goals (first | assumption | ((with_reducible show wpAny _ _ (Builtin.Str.tableLookup _ _) _ _ _); refine look_miss (c := c) hh hd hm hv ?_) | wp_step))
  all_goals (intro h' tk' kp)
  all_goals (repeat (any_goals (first | assumption | wp_step)))
  refine ⟨_, rfl, ?_⟩
  have := hQ h' (tk' + 1) tk' kp
  simpa using this
theorem translate_text {c : Nat} {x : Str} {t u : Tok} {Q : Value → Shared → Prop} (hc : c < 128) (hx : x.length = 2) (hm : s.heap.MapOf (intKind prog w) d f) (hv : f c = some (.str x u))
    (hQ : ∀ tk u, Q (.str x u) { s with toks := tk }) : wpAny (model prog w) A (call (.builtin "str.translate") [.str ⟨#[c]⟩ t, .ref d]) Q E s := by
  refine wpAny_call_entry F.slot_str_translate (typeIs_str _ _ _) F.entry_str_translate ?_ (F.args_str_translate_2 _ _)
  obtain ⟨hp, g, dr, tk, os⟩ := s
  have hl : (x.length == 1 && x.cps.all fun y => decide (y < 128)) = false := by rw [hx]; rfl
  unfold Builtin.«str.translate»
  repeat (any_goals (first | assumption | ((with_reducible show wpAny _ _ (Builtin.Str.tableLookup _ _) _ _ _); refine look_text (c := c) hm hv ?_) | wp_step))
  all_goals (intro tk')
  simp only [hl, Bool.false_eq_true, if_false]
  repeat (any_goals (first | assumption | ((with_reducible show wpAny _ _ (Builtin.Str.tableLookup _ _) _ _ _); refine look_text (c := c) hm hv ?_) | wp_step))
  all_goals (intro tk2)
  repeat (any_goals (first | assumption | wp_step))
  have h2 : ¬ (Builtin.Str.tooLong ([x], 0 + x.length, false, ([] : List (Nat × Option Nat)), false).snd.fst = true) := by
    show ¬ (Builtin.Str.tooLong (0 + x.length) = true); rw [hx]; decide
  rw [if_neg h2]
  have h3 : (⟨List.foldl (fun acc p => acc ++ p.cps) #[] ([x], 0 + x.length, false, ([] : List (Nat × Option Nat)), false).fst.reverse⟩ : Str) = x := by simp
  rw [h3]
  refine wpAny_bind (wpAny_mkStr (wpAny_pure ⟨_, rfl, hQ _ _⟩) ?_)
  rw [sizeLine_eq]; omega
end

section
variable {prog : Program} {w : World} {B : GB} {A : Around} {H : HP} {P : AV → HP → Prop}
theorem op_translate {d : Addr} {f : Int → Option Value} {c : Nat} {y : Str} (hh : A.handled = none) (hm : B.heap.MapOf (intKind prog w) d f) (hd : (d == sysModules) = false) (hc : c < 128)
    (hy : (f c = none ∧ y = ⟨#[c]⟩) ∨ ((∃ u, f c = some (.str y u)) ∧ y.length = 2)) (p : P (.str y) H) : OP prog w B A H [.str ⟨#[c]⟩, .val (.ref d)] (cl (.builtin "str.translate")) P := opc2 fun s E v u hr r r' => by
  (first | obtain ⟨_, rfl⟩ := r.sh | obtain rfl := r.sh); (first | obtain ⟨_, rfl⟩ := r'.sh | obtain rfl := r'.sh)
  have hm' : s.heap.MapOf (intKind prog w) d f := by
    obtain ⟨o, es, ep, ho, q⟩ := hm
    exact ⟨o, es, ep, hr.keep _ _ ho, q⟩
  rcases hy with ⟨hv, rfl⟩ | ⟨⟨u, hv⟩, hl⟩
  · exact translate_miss hc hh hd hm' hv fun h' tk u kp => ⟨_, H, h', tk, rfl, p, .str .., hr.keeps kp, .keeps kp⟩
  · exact translate_text hc hl hm' hv fun tk u => .tok p (.str ..) hr
end
end Mine
namespace Mine
open PySem PySem.Calls

noncomputable def FrA (A : Around) (B : GB) : Prop := ∃ l, A.frames = some l ∧ ∀ env ∈ l, env.scope.kind ≠ .module ∧ ∃ L, env.frame = some L ∧ L ∈ B.live ∧ B.get? L = none
theorem FrA.deeper {A : Around} {B : GB} {env : Env} {L : Addr} (x : FrA A B) (hk : env.scope.kind ≠ .module) (hf : env.frame = some L) (hn : B.get? L = none) : FrA (A.deeper env) (B.more L) := by
  obtain ⟨l, hl, h⟩ := x
  refine ⟨env :: l, by show A.frames.map _ = _; rw [hl]; rfl, fun e he => ?_⟩
  rcases List.mem_cons.mp he with rfl | he
  · exact ⟨hk, L, hf, by simp, hn⟩
  · obtain ⟨a, L', b, c, d⟩ := h e he
    exact ⟨a, L', b, List.mem_cons_of_mem _ c, d⟩
structure InFr (A : Around) (B : GB) (env : Env) (L : Addr) : Prop where
  fr : FrA A B
  top : ∃ outer, A.frames = some (env :: outer)
  frame : env.frame = some L
theorem InFr.deeper {A : Around} {B : GB} {env : Env} {L : Addr} (x : FrA A B) (hk : env.scope.kind ≠ .module) (hf : env.frame = some L) (hn : B.get? L = none) : InFr (A.deeper env) (B.more L) env L := by
  refine ⟨x.deeper hk hf hn, ?_, hf⟩
  obtain ⟨l, hl, _⟩ := x
  exact ⟨l, by show A.frames.map _ = _; rw [hl]; rfl⟩
theorem InFr.mark {A : Around} {B : GB} {env : Env} {L : Addr} {v : Option Value} (x : InFr A B env L) : InFr (A.mark v) B env L := ⟨x.fr, x.top, x.frame⟩

noncomputable def hide (h : Heap) (p : Addr → Bool) : Heap := ⟨h.objs.mapIdx fun i o => if p i then { o with data := .freed } else o, h.life⟩
theorem get?_hide (h : Heap) (p : Addr → Bool) (a : Addr) : (hide h p).get? a = if p a then none else h.get? a := by
  unfold hide Heap.get?
  simp only [Array.getElem?_mapIdx]
  cases e : h.objs[a]? with
  | none => simp
  | some o =>
    simp only [Option.map_some]
    by_cases q : p a = true
    · rw [if_pos q, if_pos q]
    · rw [if_neg q, if_neg q]

noncomputable def Soft (B : GB) (W : Addr → Prop) (h h' : Heap) : Prop := ∀ b o, ¬ W b → h.get? b = some o → h'.get? b = some o ∨ (B.get? b = none ∧ (∃ es ep, o.data = .dict es ep) ∧ ∃ sl, h'.get? b = some { o with slots := sl })
theorem Soft.tr {B : GB} {W : Addr → Prop} {H : HP} {h h' : Heap} (k : Soft B W h h') : Tr W H h H h' := ⟨fun b o hb e => .inl (by
  rcases k b o hb e with q | ⟨_, q, r⟩
  · exact .inl q
  · exact .inr ⟨q, r⟩), fun _ hb => .inl hb⟩
theorem Soft.hr {B : GB} {W : Addr → Prop} {H : HP} {h h' : Heap} (k : Soft B W h h') (hr : HR B H h) (x : Shape false W h) (hB : ∀ b, W b → B.get? b = none) : HR B H h' where
  keep := fun b o e => by
    rcases k b o (fun hb => by rw [hB b hb] at e; cases e) (hr.keep b o e) with q | ⟨q, _⟩
    · exact q
    · rw [q] at e; cases e
  list := fun p hp => by
    obtain ⟨vs, n, e, r⟩ := hr.list p hp
    refine ⟨vs, n, ?_, r.tr k.tr x.plain⟩
    rcases k _ _ (x.notList e) e with q | ⟨_, ⟨es, ep, q⟩, _⟩
    · exact q
    · cases q
  new := hr.new
  nodup := hr.nodup
  alive := fun L hL => let ⟨m, hm⟩ := hr.alive L hL; ⟨m, (k.tr (H := H)).ns (x.notNs hm) hm⟩
theorem Soft.fw {B : GB} {W : Addr → Prop} {H : HP} {h h' : Heap} {env : Env} {l : Loc} (k : Soft B W h h') (F : FW B H env l h) (x : Shape false W h) : FW B H env l h' := by
  obtain ⟨m, hn, _⟩ := F.ns
  exact F.trW k.tr (x.notNs hn) (fun _ _ _ _ q => x.notCell q) fun _ _ _ _ r => r.tr k.tr x.plain
theorem Soft.keep {B : GB} {W : Addr → Prop} {h h' : Heap} (k : ∀ b o, ¬ W b → h.get? b = some o → h'.get? b = some o) : Soft B W h h' := fun b o hb e => .inl (k b o hb e)
noncomputable def Fresh (h : Heap) (e : Addr) (X : String) (c : Value) : Prop := ∃ oe vs, h.get? e = some oe ∧ oe.cls = .type X ∧ oe.data = .fields vs ∧ vs.size = 6 ∧ vs[1]? = some .none ∧ vs[2]? = some c
noncomputable def Fly (h : Heap) (e : Addr) (X : String) (c : Value) (tb : Addr) (fl : Value) : Prop :=
  ∃ oe vs ot ts, h.get? e = some oe ∧ oe.cls = .type X ∧ oe.data = .fields vs ∧ vs.size = 6 ∧ vs[1]? = some (.ref tb) ∧ vs[2]? = some c ∧ tb ≠ e ∧ h.get? tb = some ot ∧ ot.data = .fields ts ∧ 3 < ts.size ∧ ts[3]? = some fl
theorem fields_inert {o : Obj} {vs : Array Value} (hd : o.data = .fields vs) (hn : 2 < vs.size) : (∃ fs, o.data = .fields fs ∧ ∀ id v, fs ≠ #[.builtin id, v]) := ⟨vs, hd, fun id v q => by rw [q] at hn; simp at hn⟩
theorem Fresh.shape {h : Heap} {e : Addr} {X : String} {c : Value} (x : Fresh h e X c) : Shape false (fun b => b = e) h := fun b o hb q => by
  obtain ⟨oe, vs, he, _, hd, hs, _⟩ := x
  rw [show b = e from hb, he] at q
  cases q
  exact .inl (fields_inert hd (by omega))
theorem Fly.shape {h : Heap} {e tb : Addr} {X : String} {c fl : Value} (x : Fly h e X c tb fl) : Shape false (fun b => b = e ∨ b = tb) h := fun b o hb q => by
  obtain ⟨oe, vs, ot, ts, he, _, hd, hs, _, _, _, ht, hdt, h3, _⟩ := x
  rcases hb with rfl | rfl
  · rw [he] at q; cases q
    exact .inl (fields_inert hd (by omega))
  · rw [ht] at q; cases q
    exact .inl (fields_inert hdt (by omega))
theorem Fly.tr {W : Addr → Prop} {H H' : HP} {h h' : Heap} {e tb : Addr} {X : String} {c fl : Value} (x : Fly h e X c tb fl) (t : Tr W H h H' h') (hW : ∀ b o vs, W b → h.get? b = some o → o.data ≠ .fields vs) : Fly h' e X c tb fl := by
  obtain ⟨oe, vs, ot, ts, he, hc, hd, hs, h1, h2, hne, ht, hdt, h3, h4⟩ := x
  have k : ∀ {b o fs}, h.get? b = some o → o.data = .fields fs → h'.get? b = some o := fun {b o fs} q d => by
    have s := t.other (fun hw => hW b o fs hw q d) q (by intro vs n z; rw [z] at d; cases d)
    exact s.exact (by rw [d]; simp)
  exact ⟨oe, vs, ot, ts, k he hd, hc, hd, hs, h1, h2, hne, k ht hdt, hdt, h3, h4⟩
theorem FW.ownNoFields {B : GB} {H : HP} {env : Env} {l : Loc} {h : Heap} (F : FW B H env l h) : ∀ b o vs, own env b → h.get? b = some o → o.data ≠ .fields vs := fun b o vs hb e q => by
  rcases hb with rfl | ⟨fn, y, z⟩
  · obtain ⟨m, ⟨o', es, ep, ho, hd, _⟩, _⟩ := F.ns
    rw [ho] at e; cases e; rw [hd] at q; cases q
  · obtain ⟨⟨vo, o', ho, hd⟩, _⟩ := F.cells fn y b z
    rw [ho] at e; cases e; rw [hd] at q; cases q

section
variable {M : Model} {A : Around} {B : GB} {E : Value → Shared → Prop} {s : Shared} {env : Env} {L e : Addr} {X : String} {c : Value} {H : HP}
theorem frames_of {l : List Env} (hr : HR B H s.heap) (hl : ∀ env ∈ l, env.scope.kind ≠ .module ∧ ∃ L, env.frame = some L ∧ L ∈ B.live ∧ B.get? L = none) (base : Heap) (hb : ∀ env ∈ l, ∀ L, env.frame = some L → base.get? L = none) : s.heap.FunFrames base l := by
  induction l with
  | nil => trivial
  | cons env r ih =>
    obtain ⟨hk, L, hf, hL, hn⟩ := hl env (by simp)
    obtain ⟨m, o, es, ep, ho, hd, _⟩ := hr.alive L hL
    exact ⟨hk, ⟨L, o, hf, hb env (by simp) L hf, ho, fun vs q => by rw [hd] at q; cases q⟩, ih (fun e he => hl e (List.mem_cons_of_mem _ he)) fun e he => hb e (List.mem_cons_of_mem _ he)⟩
theorem note1 {Q : Unit → Shared → Prop} (I : InFr A B env L) (hr : HR B H s.heap) (x : Fresh s.heap e X c)
    (h : ∀ h' tb, s.heap.get? tb = none → Soft B (fun b => b = e) s.heap h' → Fly h' e X c tb (rawInt L) → Q () { s with heap := h' }) : wpAny M A (noteFrame (.ref e) env) Q E s := by
  obtain ⟨oe, vs, he, hc, hd, hs, h1, h2⟩ := x
  obtain ⟨⟨l, hl, hall⟩, ⟨outer, htop⟩, hf⟩ := I
  have : l = env :: outer := by rw [hl] at htop; injection htop
  subst this
  let base : Heap := hide s.heap fun a => decide (some a ∈ (env :: outer).map (·.frame))
  have hff : s.heap.FunFrames base (env :: outer) := frames_of hr hall base fun e' he' L' hL' => by
    show (hide _ _).get? L' = none
    rw [get?_hide, if_pos]
    exact decide_eq_true (List.mem_map.mpr ⟨e', he', hL'⟩)
  unfold noteFrame
  simp only [hf]
  refine wpAny_bind (wpAny_field he hd h1 ?_)
  rw [if_neg (by decide)]
  refine wpAny_bind (wpAny_frameOf_fun hl hff hf fun h₁ hs₁ => ?_)
  refine wpAny_bind (wpAny_entryPlaceOf fun pl hpl => ?_)
  unfold EntryCells.newEntry newFields
  refine wpAny_bind (wpAny_newObj_type ?_ (hpl.sizeOk5 _ _ _ _ _))
  have hene : e ∉ (env :: outer).filterMap (·.frame) := fun hm => by
    obtain ⟨_, o, ho, hnf⟩ := hff.mem hm
    rw [he] at ho; injection ho with ho; subst ho; exact hnf vs hd
  have he₁ : h₁.get? e = some oe := (hs₁.2.1 e hene).trans he
  have he₂ := Heap.get?_push_of_some (h := h₁) { cls := .type "traceback", dict := none, data := .fields ([Value.none, .ref L, .none, rawInt L, .none] ++ (if pl.isEmpty then List.replicate 6 Value.none else pl)).toArray } he₁
  refine wpAny_setField he₂ hd (by omega) ?_
  have hTe : h₁.objs.size ≠ e := Nat.ne_of_gt (Heap.lt_size he₁)
  have hd₃ := Obj.data_mapFields hd (·.setIfInBounds 1 (Value.ref h₁.objs.size))
  refine h _ h₁.objs.size (Heap.get?_none_of_le (by rw [hs₁.1]; exact Nat.le_refl _)) (fun b o hbe hb => ?_) ?_
  · have hbe : b ≠ e := hbe
    have up : ∀ o', h₁.get? b = some o' → ((h₁.push { cls := .type "traceback", dict := none, data := .fields ([Value.none, .ref L, .none, rawInt L, .none] ++ (if pl.isEmpty then List.replicate 6 Value.none else pl)).toArray }).update e (Obj.mapFields (·.setIfInBounds 1 (Value.ref h₁.objs.size)))).get? b = some o' := fun o' q => by
      rw [Heap.get?_update_other _ _ (Ne.symm hbe)]
      exact Heap.get?_push_of_some _ q
    by_cases hm : b ∈ (env :: outer).filterMap (·.frame)
    · right
      obtain ⟨e', he', hb'⟩ := List.mem_filterMap.mp hm
      obtain ⟨hk', L', hf', hL', hn'⟩ := hall e' he'
      rw [hf'] at hb'; cases hb'
      obtain ⟨m, o', es, ep, ho', hd', _⟩ := hr.alive _ hL'
      rw [hb] at ho'; cases ho'
      obtain ⟨sl, q⟩ := hs₁.2.2 _ _ hb
      exact ⟨hn', ⟨es, ep, hd'⟩, sl, up _ q⟩
    · left
      exact up _ ((hs₁.2.1 b hm).trans hb)
  · refine ⟨_, _, { cls := .type "traceback", dict := none, data := .fields ([Value.none, .ref L, .none, rawInt L, .none] ++ (if pl.isEmpty then List.replicate 6 Value.none else pl)).toArray }, ([Value.none, .ref L, .none, rawInt L, .none] ++ (if pl.isEmpty then List.replicate 6 Value.none else pl)).toArray, Heap.get?_update_self _ he₂ (Obj.isFreed_of_fields hd₃), (Obj.cls_mapFields _ _).trans hc, hd₃, by simp [hs], by simp [hs], by rw [Array.getElem?_setIfInBounds]; simpa using h2, hTe, ?_, rfl, (by simp only [List.size_toArray, List.length_append, List.length_cons, List.length_nil]; omega), by simp⟩
    rw [Heap.get?_update_other _ _ (Ne.symm hTe)]
    exact Heap.get?_push_size _ rfl
theorem note2 {tb : Addr} {Q : Unit → Shared → Prop} (I : InFr A B env L) (x : Fly s.heap e X c tb (rawInt L)) (h : Q () s) : wpAny M A (noteFrame (.ref e) env) Q E s := by
  obtain ⟨oe, vs, ot, ts, he, hc, hd, hs, h1, h2, hne, ht, hdt, h3, h4⟩ := x
  exact wpAny_noteFrame_inFlight I.frame he hd h1 ht hdt h4 h
theorem flight {tb : Addr} {fl : Value} {f : Option Addr} {Q : Unit → Shared → Prop} (x : Fly s.heap e X c tb fl)
    (h : ∀ h', (∀ b o, b ≠ tb → s.heap.get? b = some o → h'.get? b = some o) → Fly h' e X c tb (f.elim Value.none fun f => rawInt f) → Q () { s with heap := h' }) : wpAny M A (setFlight (.ref e) f) Q E s := by
  obtain ⟨oe, vs, ot, ts, he, hc, hd, hs, h1, h2, hne, ht, hdt, h3, h4⟩ := x
  unfold setFlight
  refine wpAny_bind (wpAny_field he hd h1 ?_)
  rw [if_pos (show (Value.ref tb != Value.none) = true from by simp)]
  refine wpAny_setField ht hdt h3 (h _ (fun b o hb q => (Heap.get?_update_other _ _ (Ne.symm hb)).trans q) ?_)
  have hd₃ := Obj.data_mapFields hdt (·.setIfInBounds 3 (f.elim Value.none fun f => rawInt f))
  exact ⟨oe, vs, _, _, (Heap.get?_update_other _ _ hne).trans he, hc, hd, hs, h1, h2, hne, Heap.get?_update_self _ ht (Obj.isFreed_of_fields hd₃), hd₃, by simpa using h3, by simp [h3]⟩
theorem camesBack {tb : Addr} {fl : Value} (I : InFr A B env L) (x : Fly s.heap e X c tb fl)
    (h : ∀ h', (∀ b o, b ≠ tb → s.heap.get? b = some o → h'.get? b = some o) → Fly h' e X c tb (rawInt L) → E (.ref e) { s with heap := h' }) : cameBackBy M A env E (.ref e) s := by
  obtain ⟨oe, vs, ot, ts, he, hc, hd, hs, h1, h2, hne, ht, hdt, h3, h4⟩ := id x
  unfold cameBackBy
  refine wpAny_bind (wpAny_field he hd h1 ?_)
  rw [if_neg (by simp)]
  rw [I.frame]
  first
    | exact flight x h
    | exact wpAny_bind (wpAny_pure (flight x h))
end
end Mine
namespace Mine
open PySem PySem.Calls

theorem soft_step {B : GB} {W : Addr → Prop} {H₀ H : HP} {h₀ h h' : Heap} {env : Env} {l : Loc} (k : Soft B W h h') (sh : Shape false W h) (hW : ∀ b, W b → h₀.get? b = none) (hr₀ : HR B H₀ h₀) (hr : HR B H h) (F : FW B H env l h) (t : Tr (own env) H₀ h₀ H h) :
    HR B H h' ∧ FW B H env l h' ∧ Tr (own env) H₀ h₀ H h' := by
  refine ⟨k.hr hr sh fun b hb => ?_, k.fw F sh, t.step k.tr (fun b hb => .inr (hW b hb)) F.ownLive⟩
  cases q : B.get? b with
  | none => rfl
  | some o => have := hr₀.keep b o q; rw [hW b hb] at this; cases this

noncomputable def EXPost (B : GB) (s : Shared) (H : HP) (X : String) (cl : Bool) (PE : HP → Prop) : Value → Shared → Prop := fun v s' =>
  ∃ e H' h' tk c, v = .ref e ∧ s' = { s with heap := h', toks := tk } ∧ Fresh h' e X c ∧ (cl = true → c = .none) ∧ PE H' ∧ HR B H' h' ∧ Tr nowhere H s.heap H' h' ∧ s.heap.get? e = none
noncomputable def XPost (B : GB) (env : Env) (L : Addr) (s : Shared) (H : HP) (X : String) (cl : Bool) (PE : Loc → HP → Prop) : Value → Shared → Prop := fun v s' =>
  ∃ e l' H' h' tk c, v = .ref e ∧ s' = { s with heap := h', toks := tk } ∧ (Fresh h' e X c ∨ ∃ tb, s.heap.get? tb = none ∧ Fly h' e X c tb (rawInt L)) ∧ (cl = true → c = .none) ∧ PE l' H' ∧ HR B H' h' ∧ FW B H' env l' h' ∧
    Tr (own env) H s.heap H' h' ∧ s.heap.get? e = none

theorem none_before {W : Addr → Prop} {H H' : HP} {h h' : Heap} (t : Tr W H h H' h') {b : Addr} (e : h'.get? b = none) (hW : W b → ∃ o, h'.get? b = some o) : h.get? b = none :=
  t.none_of (fun hw => by obtain ⟨o, q⟩ := hW hw; rw [e] at q; cases q) e
theorem EXPost.trans {B : GB} {s : Shared} {H H₁ : HP} {X : String} {cl : Bool} {PE : HP → Prop} {h₁ : Heap} {tk₁ : Nat} {v : Value} {s' : Shared} (t : Tr nowhere H s.heap H₁ h₁)
    (x : EXPost B { s with heap := h₁, toks := tk₁ } H₁ X cl PE v s') : EXPost B s H X cl PE v s' := by
  obtain ⟨e, H', h', tk, c, rfl, rfl, f, hc, p, hr, t', n⟩ := x
  exact ⟨e, H', h', tk, c, rfl, rfl, f, hc, p, hr, t.trans' t', none_before t n fun q => q.elim⟩
theorem XPost.trans {B : GB} {env : Env} {L : Addr} {s : Shared} {H H₁ : HP} {X : String} {cl : Bool} {PE : Loc → HP → Prop} {h₁ : Heap} {tk₁ : Nat} {l₁ : Loc} {v : Value} {s' : Shared} (t : Tr (own env) H s.heap H₁ h₁) (F : FW B H₁ env l₁ h₁)
    (x : XPost B env L { s with heap := h₁, toks := tk₁ } H₁ X cl PE v s') : XPost B env L s H X cl PE v s' := by
  obtain ⟨e, l', H', h', tk, c, rfl, rfl, f, hc, p, hr, F', t', n⟩ := x
  refine ⟨e, l', H', h', tk, c, rfl, rfl, ?_, hc, p, hr, F', t.transW F t', none_before t n F.ownThere⟩
  rcases f with f | ⟨tb, ht, f⟩
  · exact .inl f
  · exact .inr ⟨tb, none_before t ht F.ownThere, f⟩
theorem EXPost.toX {B : GB} {env : Env} {L : Addr} {s : Shared} {H : HP} {X : String} {cl : Bool} {PE : HP → Prop} {PE' : Loc → HP → Prop} {l : Loc} {v : Value} {s' : Shared} (F : FW B H env l s.heap) (x : EXPost B s H X cl PE v s') (hp : ∀ H', PE H' → PE' l H') : XPost B env L s H X cl PE' v s' := by
  obtain ⟨e, H', h', tk, c, rfl, rfl, f, hc, p, hr, t', n⟩ := x
  exact ⟨e, l, H', h', tk, c, rfl, rfl, .inl f, hc, hp _ p, hr, F.tr t', t'.up, n⟩

section
variable (prog : Program) (w : World) (B : GB) (A : Around) (env : Env) (l : Loc) (Pre : Heap → Prop) (X : String) (cl : Bool)
structure EXR (e : Expr) (H : HP) (PE : HP → Prop) : Prop where
  run : ∀ (s : Shared) (E : Value → Shared → Prop), Pre s.heap → HR B H s.heap → FR H env l s.heap → (∀ v s', EXPost B s H X cl PE v s' → E v s') → wpAny (model prog w) A (eval e env) (fun _ _ => False) E s
structure TXR (e : Expr) (H : HP) (PE : HP → Prop) : Prop where
  run : ∀ (s : Shared) (E : Value → Shared → Prop), Pre s.heap → HR B H s.heap → FR H env l s.heap → (∀ v s', EXPost B s H X cl PE v s' → E v s') → wpAny (model prog w) A (isTrue e env (eval e env)) (fun _ _ => False) E s
structure OPR (H : HP) (as : List AV) (t : List Value → Sem Value) (PE : HP → Prop) : Prop where
  run : ∀ (s : Shared) (E : Value → Shared → Prop) (vs : List Value), Pre s.heap → HR B H s.heap → VRs H s.heap as vs → (∀ v s', EXPost B s H X cl PE v s' → E v s') → wpAny (model prog w) A (t vs) (fun _ _ => False) E s
structure SXR (L : Addr) (st : Stmt) (H : HP) (P : AF → Loc → HP → Prop) (PE : Loc → HP → Prop) : Prop where
  run : ∀ (s : Shared) (E : Value → Shared → Prop), Pre s.heap → HR B H s.heap → FW B H env l s.heap → (∀ v s', XPost B env L s H X cl PE v s' → E v s') → wpAny (model prog w) A (exec st env) (SPost B env s H P) E s
structure SR (L : Addr) (ss : List Stmt) (H : HP) (P : AF → Loc → HP → Prop) (PE : Loc → HP → Prop) : Prop where
  run : ∀ (s : Shared) (E : Value → Shared → Prop), Pre s.heap → HR B H s.heap → FW B H env l s.heap → (∀ v s', XPost B env L s H X cl PE v s' → E v s') → wpAny (model prog w) A (execs ss env) (SPost B env s H P) E s
end
noncomputable def Lasts (Pre : Heap → Prop) : Prop := ∀ (W : Addr → Prop) H h H' h', Tr W H h H' h' → (∀ b o vs, W b → h.get? b = some o → o.data ≠ .fields vs) → Pre h → Pre h'
theorem lasts_true : Lasts fun _ => True := fun _ _ _ _ _ _ _ _ => trivial
theorem lasts_fly {e tb : Addr} {X : String} {c fl : Value} : Lasts fun h => Fly h e X c tb fl := fun _ _ _ _ _ t hW x => x.tr t hW
theorem Lasts.no {Pre : Heap → Prop} (x : Lasts Pre) {H h H' h'} (t : Tr nowhere H h H' h') (p : Pre h) : Pre h' := x _ _ _ _ _ t (fun _ _ _ q => q.elim) p

section
variable {prog : Program} {w : World} {B : GB} {A : Around} {env : Env} {l : Loc} {Pre : Heap → Prop} {X : String} {cl : Bool} {L : Addr} {H : HP} {P : AF → Loc → HP → Prop} {PE : Loc → HP → Prop}
theorem exr_item {value slice : Expr} {pos : Pos} {T id : String} {PE : HP → Prop} (hp : Lasts Pre) (hl : typeLookup (.type T) "__getitem__" = pure (some (.builtin id)))
    (h : EX prog w B A env l value H fun o H₁ => EX prog w B A env l slice H₁ fun i H₂ => IsT B H₂ o T ∧ OPR prog w B A Pre X cl H₂ [o, i] (bin getItem) PE)
    (hsl : ∀ o i, ∃ ops, subscripted slice false o i = operate ops (getItem o i) := by exact fun o i => ⟨_, rfl⟩) : EXR prog w B A env l Pre X cl (.Subscript value slice pos) H PE := .mk fun s E hpre hr F hE =>
  subs_core hl (use (h.run s E hr F) fun o v H₁ h₁ tk₁ p r hr₁ t₁ => use (p.run _ E hr₁ (F.tr t₁)) fun i u H₂ h₂ tk₂ p₂ r₂ hr₂ t₂ =>
    ⟨(p₂.1 _ v hr₂ (r.tr' t₂)).1, p₂.2.run _ E [v, u] (hp.no (t₁.trans' t₂) hpre) hr₂ (.cons (r.tr' t₂) (.cons r₂ .nil)) fun v s' x => hE v s' (x.trans (t₁.trans' t₂))⟩) hsl
theorem txr_cmp1 {x y : Expr} {op : CmpOp} {pos : Pos} {PE : HP → Prop} (h : EXR prog w B A env l Pre X cl x H PE) (hm : behindInMarks op y = false := by with_unfolding_all rfl) :
    TXR prog w B A env l Pre X cl (.Compare x [op] [y] pos) H PE := .mk fun s E hpre hr F hE =>
  wpAny_isTrue_Compare1 (wpAny_mono (h.run s E hpre hr F hE) (fun _ _ q => q.elim) fun _ _ e => e) hm
theorem sr_of {ss : List Stmt} (h : ST prog w B A env ss l H P) : SR prog w B A env l Pre X cl L ss H P PE := .mk fun s E _ hr F _ => h.run s E hr F
theorem sr_cons {st : Stmt} {ss : List Stmt} (hp : Lasts Pre) (h : SX prog w B A env st l H fun f l₁ H₁ => match f with | .next => SR prog w B A env l₁ Pre X cl L ss H₁ P PE | f => P f l₁ H₁) : SR prog w B A env l Pre X cl L (st :: ss) H P PE := .mk fun s E hpre hr F hE =>
  wpAny_execs_cons (useS (h.run s E hr F) fun af f l₁ H₁ h₁ tk₁ p r hr₁ F₁ t₁ => by
    cases af with
    | next => cases f <;> first | exact r.elim | exact backS t₁ F₁ (p.run { s with heap := h₁, toks := tk₁ } E (hp _ _ _ _ _ t₁ F.ownNoFields hpre) hr₁ F₁ fun v s' x => hE v s' (x.trans t₁ F₁))
    | brk => cases f <;> first | exact r.elim | exact ⟨.brk, l₁, H₁, h₁, tk₁, rfl, p, r, hr₁, F₁, t₁⟩
    | cont => cases f <;> first | exact r.elim | exact ⟨.cont, l₁, H₁, h₁, tk₁, rfl, p, r, hr₁, F₁, t₁⟩
    | ret a => cases f <;> first | exact r.elim | exact ⟨.ret a, l₁, H₁, h₁, tk₁, rfl, p, r, hr₁, F₁, t₁⟩)
theorem sr_one {st : Stmt} (h : SXR prog w B A env l Pre X cl L st H P PE) : SR prog w B A env l Pre X cl L [st] H P PE := .mk fun s E hpre hr F hE =>
  wpAny_execs_cons (useS (h.run s E hpre hr F hE) fun af f l₁ H₁ h₁ tk₁ p r hr₁ F₁ t₁ => by
    cases af with
    | next => cases f <;> first | exact r.elim | exact wpAny_execs_nil ⟨.next, l₁, H₁, h₁, tk₁, rfl, p, r, hr₁, F₁, t₁⟩
    | brk => cases f <;> first | exact r.elim | exact ⟨.brk, l₁, H₁, h₁, tk₁, rfl, p, r, hr₁, F₁, t₁⟩
    | cont => cases f <;> first | exact r.elim | exact ⟨.cont, l₁, H₁, h₁, tk₁, rfl, p, r, hr₁, F₁, t₁⟩
    | ret a => cases f <;> first | exact r.elim | exact ⟨.ret a, l₁, H₁, h₁, tk₁, rfl, p, r, hr₁, F₁, t₁⟩)
theorem sxr_expr {e : Expr} {pos : Pos} {PE' : HP → Prop} (h : EXR prog w B A env l Pre X cl e H PE') (hp : ∀ H', PE' H' → PE l H') (hi : interactive env = false := by rfl) (hs : swapsWith e none pos.line env = pure false := by rfl) :
    SXR prog w B A env l Pre X cl L (.Expr e pos) H P PE := .mk fun s E hpre hr F hE =>
  wpAny_Expr_any (wpAny_mono (h.run s E hpre hr F.toFR fun v s' x => hE v s' (x.toX F hp)) (fun _ _ q => q.elim) fun _ _ e => e) hi hs
theorem sxr_if {test : Expr} {body orelse : List Stmt} {pos : Pos} (hp : Lasts Pre) (h : TX prog w B A env l test H fun b H₁ => if b = true then SR prog w B A env l Pre X cl L body H₁ P PE else SR prog w B A env l Pre X cl L orelse H₁ P PE) :
    SXR prog w B A env l Pre X cl L (.If test body orelse pos) H P PE := .mk fun s E hpre hr F hE =>
  wpAny_If (useB (h.run s E hr F.toFR) fun b H₁ h₁ tk₁ p hr₁ t₁ => by
    cases b with
    | true => exact backS t₁.up (F.tr t₁) ((ift p).run { s with heap := h₁, toks := tk₁ } E (hp.no t₁ hpre) hr₁ (F.tr t₁) fun v s' x => hE v s' (x.trans t₁.up (F.tr t₁)))
    | false => exact backS t₁.up (F.tr t₁) ((ifn p).run { s with heap := h₁, toks := tk₁ } E (hp.no t₁ hpre) hr₁ (F.tr t₁) fun v s' x => hE v s' (x.trans t₁.up (F.tr t₁))))

theorem noted {E : Value → Shared → Prop} {s₀ s' : Shared} {v : Value} {Q : Unit → Shared → Prop} (I : InFr A B env L) (hr₀ : HR B H s₀.heap) (x : XPost B env L s₀ H X cl PE v s')
    (k : ∀ e l' H' h₁ tk tb c, v = .ref e → PE l' H' → (cl = true → c = .none) → s₀.heap.get? e = none → s₀.heap.get? tb = none → Fly h₁ e X c tb (rawInt L) → HR B H' h₁ → FW B H' env l' h₁ → Tr (own env) H s₀.heap H' h₁ →
      Q () { s₀ with heap := h₁, toks := tk }) : wpAny (model prog w) A (noteFrame v env) Q E s' := by
  obtain ⟨e, l', H', h', tk, c, rfl, rfl, f, hc, p, hr, F', t', n⟩ := x
  rcases f with f | ⟨tb, ht, f⟩
  · refine note1 (s := { s₀ with heap := h', toks := tk }) I hr f fun h₁ tb htb sf fl => ?_
    obtain ⟨a, b, c'⟩ := soft_step sf f.shape (fun b hb => by rw [show b = e from hb]; exact n) hr₀ hr F' t'
    exact k e l' H' h₁ tk tb c rfl p hc n (none_before t' htb F'.ownThere) fl a b c'
  · exact note2 I f (k e l' H' h' tk tb c rfl p hc n ht f hr F' t')
theorem landed {E : Value → Shared → Prop} {s₀ s' : Shared} {v : Value} {Q : Unit → Shared → Prop} (I : InFr A B env L) (hr₀ : HR B H s₀.heap) (x : XPost B env L s₀ H X cl PE v s')
    (k : ∀ e l' H' h₁ tk tb c, v = .ref e → PE l' H' → (cl = true → c = .none) → s₀.heap.get? e = none → s₀.heap.get? tb = none → Fly h₁ e X c tb .none → HR B H' h₁ → FW B H' env l' h₁ → Tr (own env) H s₀.heap H' h₁ →
      Q () { s₀ with heap := h₁, toks := tk }) : wpAny (model prog w) A (noteFrame v env) (fun _ s₂ => wpAny (model prog w) A (setFlight v none) Q E s₂) E s' := by
  refine noted I hr₀ x fun e l' H' h₁ tk tb c hv p hc ne nt fl hr F t => ?_
  subst hv
  refine flight (s := { s₀ with heap := h₁, toks := tk }) (f := none) fl fun h₂ kp fl' => ?_
  obtain ⟨a, b, c'⟩ := soft_step (W := fun b => b = e ∨ b = tb) (.keep fun b o hb q => kp b o (fun z => hb (.inr z)) q) fl.shape (fun b hb => hb.elim (fun q => q ▸ ne) fun q => q ▸ nt) hr₀ hr F t
  exact k e l' H' h₂ tk tb c rfl p hc ne nt fl' a b c'

theorem sxr_while {test : Expr} {body : List Stmt} {pos : Pos} {PE' : HP → Prop} (I : InFr A B env L) (h : TXR prog w B A env l Pre X cl test H PE') (hp : ∀ H', PE' H' → PE l H') : SXR prog w B A env l Pre X cl L (.While test body [] pos) H P PE := .mk fun s E hpre hr F hE => by
  refine wpAny_While (codeAny_whileLoop (fun _ s' => s' = s) ?_ 0 rfl)
  rintro n s' rfl
  refine wpAny_mono (h.run s' _ hpre hr F.toFR fun v s₁ x => ?_) (fun _ _ q => q.elim) fun _ _ e => e
  refine noted (PE := PE) I hr (x.toX (env := env) (L := L) F hp) fun e l' H' h₁ tk tb c hv p hc ne nt fl hr' F' t => ?_
  subst hv
  refine camesBack (s := { s' with heap := h₁, toks := tk }) I fl fun h₂ kp fl' => hE _ _ ?_
  obtain ⟨a, b, c'⟩ := soft_step (W := fun b => b = e ∨ b = tb) (.keep fun b o hb q => kp b o (fun z => hb (.inr z)) q) fl.shape (fun b hb => hb.elim (fun q => q ▸ ne) fun q => q ▸ nt) hr hr' F' t
  exact ⟨e, l', H', h₂, tk, c, rfl, rfl, .inr ⟨tb, nt, fl'⟩, hc, p, a, b, c', ne⟩

theorem sxr_finally {body fs : List Stmt} {f₀ : Stmt} {pos : Pos} {PE₁ : Loc → HP → Prop} (I : InFr A B env L) (hp : Lasts Pre) (hb : SR prog w B A env l Pre X true L body H (fun _ _ _ => False) PE₁)
    (hf : ∀ e tb l' H', PE₁ l' H' → SR prog w B (A.mark (some (.ref e))) env l' (fun h => Fly h e X .none tb .none) X cl L (f₀ :: fs) H' (fun _ _ _ => False) PE) :
    SXR prog w B A env l Pre X cl L (.Try body [] [] (f₀ :: fs) pos) H P PE := .mk fun s E hpre hr F hE => by
  refine wpAny_Try_finally (wpAny_mono (hb.run s (fun e s₁ => wpAny (model prog w) A (noteFrame e env) (fun _ s₂ => FinallyRaised prog w A E env (f₀ :: fs) (SPost B env s H P) e s₂) (FinallyRaised prog w A E env (f₀ :: fs) (SPost B env s H P)) s₁) hpre hr F fun v s₁ x => ?_)
    (fun f s₁ q => by obtain ⟨_, _, _, _, _, _, q, _⟩ := q; exact q.elim) fun _ _ e => e)
  refine noted I hr x fun e l' H' h₁ tk tb c hv p hc ne nt fl hr' F' t => ?_
  subst hv
  refine ⟨ref_ne_byPass _, note2 (s := { s with heap := h₁, toks := tk }) I fl (flight (s := { s with heap := h₁, toks := tk }) (f := none) fl fun h₂ kp fl' => ?_)⟩
  have sh := fl.shape
  obtain ⟨hr₂, F₂, t₂⟩ := soft_step (W := fun b => b = e ∨ b = tb) (.keep fun b o hb q => kp b o (fun z => hb (.inr z)) q) sh (fun b hb => hb.elim (fun q => q ▸ ne) fun q => q ▸ nt) hr hr' F' t
  rw [hc rfl] at fl'
  refine wpAny_mono ((hf e tb l' H' p).run { s with heap := h₂, toks := tk } _ fl' hr₂ F₂ fun v s₃ x₃ => ?_) (fun f s₁ q => by obtain ⟨_, _, _, _, _, _, q, _⟩ := q; exact q.elim) fun _ _ e => e
  have x₃' := x₃.trans t₂ F₂
  refine noted I.mark hr x₃' fun e' l₃ H₃ h₃ tk₃ tb₃ c₃ hv p₃ hc₃ ne₃ nt₃ fl₃ hr₃ F₃ t₃ => ?_
  subst hv
  refine camesBack (s := { s with heap := h₃, toks := tk₃ }) I fl₃ fun h₄ kp₄ fl₄ => hE _ _ ?_
  obtain ⟨a, b, c'⟩ := soft_step (W := fun b => b = e' ∨ b = tb₃) (.keep fun b o hb q => kp₄ b o (fun z => hb (.inr z)) q) fl₃.shape (fun b hb => hb.elim (fun q => q ▸ ne₃) fun q => q ▸ nt₃) hr hr₃ F₃ t₃
  exact ⟨e', l₃, H₃, h₄, tk₃, c₃, rfl, rfl, .inr ⟨tb₃, nt₃, fl₄⟩, hc₃, p₃, a, b, c', ne₃⟩

theorem sx_try {body suite : List Stmt} {b₀ : Stmt} {t : Expr} {T : String} {hpos pos : Pos} (I : InFr A B env L)
    (hexc : isSubtype (.type T) (.type "BaseException") = pure true) (hnt : isSubtype (.type ((Manifest.find? T).elim "type" fun x => x.metatype)) (.type "tuple") = pure false) (hsub : isSubtype (.type X) (.type T) = pure true)
    (ht : ∀ (A' : Around) l' H', EX prog w B A' env l' t H' fun a H'' => a = .val (.type T) ∧ H'' = H')
    (hb : SR prog w B A env l (fun _ => True) X cl L body H P PE) (hh : ∀ e l' H', PE l' H' → ST prog w B (A.mark (some (.ref e))) env (b₀ :: suite) l' H' P) :
    SX prog w B A env (.Try body [.ExceptHandler (some t) none (b₀ :: suite) hpos] [] [] pos) l H P := .mk fun s E hr F => by
  refine wpAny_Try_except (useS (hb.run s _ trivial hr F fun v s₁ x => ?_) fun af f l₁ H₁ h₁ tk₁ p r hr₁ F₁ t₁ => ?_)
  · refine landed I hr x fun e l' H' h₁ tk tb c hv p hc ne nt fl hr' F' t₁ => ?_
    subst hv
    refine wpAny_handleBy_builtin (X := X) (T := T) (b := true) hexc hnt hsub (use ((ht (A.mark (some (.ref e))) l' H').run { s with heap := h₁, toks := tk } _ hr' F'.toFR) fun a v H₂ h₂ tk₂ p₂ r₂ hr₂ t₂ => ?_)
    obtain ⟨rfl, rfl⟩ := p₂
    (first | obtain ⟨_, rfl⟩ := r₂.sh | obtain rfl := r₂.sh)
    have fl₂ := fl.tr t₂ (fun _ _ _ q => q.elim)
    have F₂ := F'.tr t₂
    have t₂' := t₁.transW F' t₂.up
    refine ⟨rfl, ?_, ?_⟩
    · obtain ⟨oe, vs, _, _, he, hcls, _⟩ := fl₂
      exact ⟨oe, he, hcls⟩
    rw [if_pos rfl]
    refine flight (s := { s with heap := h₂, toks := tk₂ }) (f := none) fl₂ fun h₃ kp fl₃ => ?_
    obtain ⟨hr₃, F₃, t₃⟩ := soft_step (W := fun b => b = e ∨ b = tb) (.keep fun b o hb q => kp b o (fun z => hb (.inr z)) q) fl₂.shape (fun b hb => hb.elim (fun q => q ▸ ne) fun q => q ▸ nt) hr hr₂ F₂ t₂'
    refine useS ((hh e l' _ p).run { s with heap := h₃, toks := tk₂ } _ hr₃ F₃) fun af f l₄ H₄ h₄ tk₄ p₄ r₄ hr₄ F₄ t₄ => ⟨af, l₄, H₄, h₄, tk₄, rfl, p₄, r₄, hr₄, F₄, t₃.transW F₃ t₄⟩
  · cases af with
    | next => cases f <;> first | exact r.elim | exact wpAny_execs_nil ⟨.next, l₁, H₁, h₁, tk₁, rfl, p, trivial, hr₁, F₁, t₁⟩
    | brk => cases f <;> first | exact r.elim | exact ⟨.brk, l₁, H₁, h₁, tk₁, rfl, p, r, hr₁, F₁, t₁⟩
    | cont => cases f <;> first | exact r.elim | exact ⟨.cont, l₁, H₁, h₁, tk₁, rfl, p, r, hr₁, F₁, t₁⟩
    | ret a => cases f <;> first | exact r.elim | exact ⟨.ret a, l₁, H₁, h₁, tk₁, rfl, p, r, hr₁, F₁, t₁⟩
end
end Mine
namespace Mine
open PySem PySem.Calls PyProof.Rows PySem.Spec

theorem Fresh.ofNew {h h' : Heap} {e : Addr} {X : String} (x : Heap.NewExc h h' e X) : Fresh h' e X .none := by
  obtain ⟨ob, t, he, hc, hd⟩ := x.there
  exact ⟨ob, _, he, hc, hd, rfl, rfl, rfl⟩

section
variable {prog : Program} {w : World} {B : GB} {A : Around} {env : Env} {l : Loc} {H : HP} {Pre : Heap → Prop} {X : String} {cl : Bool} {PE : HP → Prop}
theorem EXPost.new {s : Shared} {h' : Heap} {tk : Nat} {e : Addr} (hr : HR B H s.heap) (x : Heap.NewExc s.heap h' e X) (p : PE H) : EXPost B s H X cl PE (.ref e) { s with heap := h', toks := tk } :=
  ⟨e, H, h', tk, .none, rfl, rfl, .ofNew x, fun _ => rfl, p, hr.keeps x.keeps, .keeps x.keeps, x.new⟩
theorem opr_itemOut {av : AV} {xs : List AV} {i : Int} (hh : A.handled = none) (hl : isL av = true) (hs : seqOf av H = some xs) (hi : (xs.length : Int) ≤ i) (hsz : i ≤ 100000) (p : PE H) : OPR prog w B A Pre "IndexError" cl H [av, .int i] (bin getItem) PE := .mk fun s E vs _ hr r hE => by
  obtain ⟨v, u, rfl, r1, r2⟩ := r.two
  obtain ⟨b, vs, n, rfl, e, rs⟩ := listAt hl r1 hr hs
  (first | obtain ⟨_, rfl⟩ := r2.sh | obtain rfl := r2.sh)
  exact wpAny_getItem_list_out hh (isList_of e) (.inr (by rw [rs.size]; exact hi)) (by omega) (by omega) fun h' tk x hx => hE _ _ (.new hr hx p)

theorem strE {y : Value} {k : Str} {t : Tok} : ∀ {vs : List Value} {ys : List Str}, StrsAre vs ys → y ∈ vs → MeetsSeq.EqGives y (.str k t) (match y with | .str s _ => decide (s = k) | _ => false)
  | _, _, .nil, h => nomatch h
  | _, _, .cons s u r, h => by
    rcases List.mem_cons.mp h with rfl | h
    · exact fun _ _ _ _ _ _ h => wpAny_eqBool_str h
    · exact strE r h
theorem strGet {vs : List Value} {ys : List Str} (r : StrsAre vs ys) : ∀ {i : Nat} {v : Value}, vs[i]? = some v → ∃ s t, ys[i]? = some s ∧ v = .str s t := by
  induction r with
  | nil => intro i v h; simp at h
  | cons s t r ih =>
    intro i v h
    cases i with
    | zero => simp at h; exact ⟨s, t, rfl, h.symm⟩
    | succ i => exact ih (by simpa using h)
theorem opr_remove {a : Addr} {ys : List Str} {k : Str} (hh : A.handled = none) (hm : (a, txts ys) ∈ H) (hk : k ∉ ys) (p : PE H) : OPR prog w B A Pre "ValueError" cl H [.list a, .str k] (fun vs => call (.builtin "list.remove") vs) PE := .mk fun s E vs _ hr r hE => by
  obtain ⟨v, u, rfl, r1, r2⟩ := r.two
  (first | obtain ⟨_, rfl⟩ := r1.sh | obtain rfl := r1.sh); (first | obtain ⟨_, rfl⟩ := r2.sh | obtain rfl := r2.sh)
  obtain ⟨vs, n, e, rs⟩ := hr.list _ hm
  refine call_meets F.slot_list_remove ⟨_, e, rfl⟩ F.entry_list_remove (F.args_list_remove_2 _ _) (MeetsSeq.list_remove_none a vs n _ (fun y => match y with | .str s _ => decide (s = k) | _ => false) (fun y hy => strE rs.strsAre (by simpa using hy)) fun m hm => ?_)
    ⟨e, hh, fun h' tk x hx => hE _ _ (.new hr hx p)⟩
  obtain ⟨s', t', h1, h2⟩ := strGet rs.strsAre (i := m) (v := vs[m]) (by simp [hm])
  rw [h2]
  exact decide_eq_false fun q => hk (q ▸ List.mem_of_getElem? h1)
end
section
variable {prog : Program} {w : World} {B : GB} {A : Around} {H₁ H₂ : HP} {a : Addr} {P : AV → HP → Prop}
theorem erase_at : ∀ {ys : List Str} {k : Str}, k ∈ ys → ∃ j : Nat, ys[j]? = some k ∧ (∀ m, m < j → ys[m]? ≠ some k) ∧ ys.erase k = ys.eraseIdx j
  | y :: ys, k, h => by
    by_cases q : y = k
    · subst q; exact ⟨0, rfl, fun m hm => absurd hm (Nat.not_lt_zero m), by simp⟩
    · have h' : k ∈ ys := (List.mem_cons.mp h).resolve_left fun z => q z.symm
      obtain ⟨j, a, b, c⟩ := erase_at h'
      refine ⟨j + 1, by simpa using a, fun m hm => ?_, ?_⟩
      · cases m with
        | zero => simpa using q
        | succ m => simpa using b m (by omega)
      · rw [List.erase_cons_tail (by simpa using q), c]; rfl
theorem op_remove {ys : List Str} {k : Str} (hk : k ∈ ys) (hsz : ys.length ≤ 1000) (p : P .none (H₁ ++ (a, txts (ys.erase k)) :: H₂)) : OP prog w B A (H₁ ++ (a, txts ys) :: H₂) [.list a, .str k] (cl (.builtin "list.remove")) P := opc2 fun s E v u hr r r' => by
  (first | obtain ⟨_, rfl⟩ := r.sh | obtain rfl := r.sh); (first | obtain ⟨_, rfl⟩ := r'.sh | obtain rfl := r'.sh)
  obtain ⟨vs, n, e, rs⟩ := hr.at
  obtain ⟨j, h1, h2, h3⟩ := erase_at hk
  have hsize : vs.size = ys.length := by rw [rs.size]; simp
  have hj : j < vs.size := by rw [hsize]; exact (List.getElem?_eq_some_iff.mp h1).1
  have at' : ∀ m (hm : m < vs.size), ∃ s t, ys[m]? = some s ∧ vs[m] = .str s t := fun m hm => strGet rs.strsAre (i := m) (v := vs[m]) (by simp [hm])
  refine call_meets F.slot_list_remove ⟨_, e, rfl⟩ F.entry_list_remove (F.args_list_remove_2 _ _) (MeetsSeq.list_remove a vs n _ (fun y => match y with | .str s _ => decide (s = k) | _ => false) (fun y hy => strE rs.strsAre (by simpa using hy)) j hj ?_ (fun m hm hlt => ?_) (by rw [sizeLine_eq, hsize]; omega)) ⟨e, ?_⟩
  · obtain ⟨s', t', a1, a2⟩ := at' j hj
    rw [a2]
    rw [h1] at a1; injection a1 with a1
    exact decide_eq_true a1.symm
  · obtain ⟨s', t', a1, a2⟩ := at' m hm
    rw [a2]
    exact decide_eq_false fun q => h2 m hlt (q ▸ a1)
  · refine Post.changed (f := fun x => x.eraseIdxIfInBounds j) hr e ?_ .none p
    have := rs.eraseIdx j
    rw [show (txts ys).eraseIdx j = txts (ys.erase k) from by rw [h3]; simp [txts, List.eraseIdx_eq_take_drop_succ]] at this
    simpa using this
end

-- raised while another one is handled
section
variable {α : Type} {prog : Program} {w : World} {A : Around} {E : Value → Shared → Prop} {s : Shared}
theorem entry_unchain : entryFor table "proto.unchain" = some Builtin.«proto.unchain» := entryFor_of_fast (by kernel_rfl)
theorem raise_held {cls msg : String} {Q : α → Shared → Prop} {e₁ tb : Addr} {X₁ : String} (hp : PlainExc cls) (hh : A.handled = some (.ref e₁)) (x : Fly s.heap e₁ X₁ .none tb .none)
    (h : ∀ h' tk e, (∀ b o, s.heap.get? b = some o → h'.get? b = some o) → s.heap.get? e = none → Fresh h' e cls (.ref e₁) → E (.ref e) { s with heap := h', toks := tk }) :
    wpAny (model prog w) A (raiseErrorWords cls msg : Sem α) Q E s := by
  unfold raiseErrorWords
  refine wpAny_bind (wpAny_mkText (wpAny_bind ?_))
  unfold newExc newTuple
  refine wpAny_bind (wpAny_newObj_type ?_)
  refine wpAny_bind (m := firstArgMember _ _) (wpAny_of_eq (a := Value.none) (by simp only [firstArgMember, hp.first]; rfl) ?_)
  rw [hp.own]
  refine wpAny_newObj_type ?_
  unfold raiseNew
  refine wpAny_bind (wpAny_handled ?_)
  rw [hh]
  obtain ⟨oe, vs, ot, ts, he, hc, hd, hs, h1, h2, hne, ht, hdt, h3, h4⟩ := x
  have k2 : ∀ (o₁ o₂ : Obj) b o, s.heap.get? b = some o → ((s.heap.push o₁).push o₂).get? b = some o := fun o₁ o₂ b o q => Heap.get?_push_of_some _ (Heap.get?_push_of_some _ q)
  have hlt := Heap.lt_size he
  dsimp only
  rw [if_pos (by
    show (Value.ref e₁ != Value.ref _) = true
    simp only [Heap.push, Array.size_push, bne_iff_ne, ne_eq, Value.ref.injEq]
    exact fun q => absurd hlt (by rw [q]; exact Nat.not_lt.mpr (Nat.le_succ _)))]
  refine wpAny_bind (wpAny_holding (wpAny_runValue (codeAny_builtin entry_unchain ?_)))
  unfold Builtin.«proto.unchain»
  dsimp only
  refine wpAny_bind (wpAny_field (k2 _ _ _ _ he) hd h2 ?_)
  rw [if_pos (by decide)]
  refine wpAny_pure ?_
  refine wpAny_bind (wpAny_bind (wpAny_load (Heap.get?_push_size _ rfl) ?_))
  dsimp only
  rw [if_pos (by simp)]
  refine wpAny_update (Heap.get?_push_size _ rfl) ?_
  have kp : ∀ {h : Heap} {o : Obj} {f : Obj → Obj} (b : Addr) (o' : Obj), b ≠ h.objs.size → h.get? b = some o' → ((h.push o).update h.objs.size f).get? b = some o' := fun b o' hb q => (Heap.get?_update_other _ _ (Ne.symm hb)).trans (Heap.get?_push_of_some _ q)
  first
    | refine wpAny_throw (h _ _ _ (fun b o q => ?_) ?_ ?_)
    | refine wpAny_pure (wpAny_throw (h _ _ _ (fun b o q => ?_) ?_ ?_))
  · have := Heap.lt_size q
    refine kp b o (fun z => ?_) (Heap.get?_push_of_some _ q)
    have e : (s.heap.push { cls := Value.type "tuple", data := Data.seq #[Value.str (Str.ofString msg) s.toks] }).objs.size = s.heap.objs.size + 1 := by simp
    rw [z, e] at this
    exact absurd this (Nat.not_lt.mpr (Nat.le_succ _))
  · exact Heap.get?_none_of_le (by simp)
  · exact ⟨_, _, Heap.get?_update_self _ (Heap.get?_push_size _ rfl) rfl, rfl, rfl, rfl, rfl, rfl⟩
end
section
variable {prog : Program} {w : World} {A : Around} {E : Value → Shared → Prop} {s : Shared}
theorem item_out_held {l : Addr} {items : Array Value} {j : Nat} {t : Tok} {Q : Value → Shared → Prop} {e₁ tb : Addr} {X₁ : String} (hh : A.handled = some (.ref e₁)) (x : Fly s.heap e₁ X₁ .none tb .none) (hl : s.heap.IsList l items)
    (hout : items.size ≤ j) (hhi : j ≤ 100000)
    (hE : ∀ h' tk e, (∀ b o, s.heap.get? b = some o → h'.get? b = some o) → s.heap.get? e = none → Fresh h' e "IndexError" (.ref e₁) → E (.ref e) { s with heap := h', toks := tk }) :
    wpAny (model prog w) A (getItem (.ref l) (.int (Int.ofNat j) t)) Q E s := by
  obtain ⟨o, ho, hc, ne, hd⟩ := id hl
  have hfit : Builtin.List.listFitsIndex (Int.ofNat j) = true := fitsIndex_both (by have : Int.ofNat j = (j : Int) := rfl; omega) (by have : Int.ofNat j = (j : Int) := rfl; omega)
  obtain ⟨k, hk⟩ : ∃ k : Int, k = Int.ofNat j := ⟨_, rfl⟩
  rw [← hk] at hfit ⊢
  unfold getItem
  try with_reducible refine wpAny_holding ?_
  first | refine wpAny_bind (wpAny_pure ?_) | skip
  refine wpAny_bind (wpAny_sequenceKey hl.typeIs (by decide) ?_)
  refine wpAny_bind (wpAny_callSpecial?_slot (name := Str.ofString "__getitem__") hl.typeIs slot_list_getitem
    (wpAny_call_entry slot_list_getitem hl.typeIs entry_list_getitem ?_ (args_list_getitem _ _)))
  show wpAny _ _ (Builtin.List.listSubscript? (.int k t) >>= _) _ _ s
  refine wpAny_bind (wpAny_listSubscript_int hfit ?_)
  have hx : items[j]? = none := Array.getElem?_eq_none hout
  subst hk
  show wpAny _ _ ((seqItemAt l j >>= fun r => pure (r.map (j, ·))) >>= _) _ _ s
  refine wpAny_bind (wpAny_bind (wpAny_seqItemAt ho hd (wpAny_pure ?_)))
  rw [hx]
  dsimp only [Option.map_none]
  first
    | exact wpAny_bind (wpAny_rule (raise_held plainExc_IndexError hh x hE))
    | exact wpAny_bind (wpAny_rule (wpAny_bind (raise_held plainExc_IndexError hh x hE)))
    | exact wpAny_bind (wpAny_bind (wpAny_rule (raise_held plainExc_IndexError hh x hE)))
    | exact wpAny_rule (raise_held plainExc_IndexError hh x hE)
end
section
variable {prog : Program} {w : World} {B : GB} {A : Around} {env : Env} {l : Loc} {H : HP} {Pre : Heap → Prop} {X : String} {cl : Bool} {PE : HP → Prop}
theorem opr_itemHeld {av : AV} {xs : List AV} {i : Int} {e₁ tb : Addr} {X₁ : String} (hh : A.handled = some (.ref e₁)) (hl : isL av = true) (hs : seqOf av H = some xs) (hi : (xs.length : Int) ≤ i) (hsz : i ≤ 100000) (p : PE H) :
    OPR prog w B A (fun h => Fly h e₁ X₁ .none tb .none) "IndexError" false H [av, .int i] (bin getItem) PE := .mk fun s E vs x hr r hE => by
  obtain ⟨v, u, rfl, r1, r2⟩ := r.two
  obtain ⟨b, vs, n, rfl, e, rs⟩ := listAt hl r1 hr hs
  obtain ⟨j, rfl⟩ : ∃ j : Nat, i = Int.ofNat j := ⟨i.toNat, by have : Int.ofNat i.toNat = (i.toNat : Int) := rfl; omega⟩
  have hj : Int.ofNat j = (j : Int) := rfl
  (first | obtain ⟨_, rfl⟩ := r2.sh | obtain rfl := r2.sh)
  exact item_out_held hh x (isList_of e) (by rw [rs.size]; omega) (by omega) fun h' tk e' k n f => hE _ _ ⟨e', H, h', tk, _, rfl, rfl, f, (fun q => Bool.noConfusion q), p, hr.keeps k, Tr.keeps k, n⟩
theorem exr_meth {o e : Expr} {es : List Expr} {name : Str} {apos pos : Pos} {T id : String} (hp : Lasts Pre) (pa : PlainAttrs T) (slot : Slot T name id) (hty : typeOf (.builtin id) = pure (.type "method_descriptor"))
    (h : EX prog w B A env l o H fun a H₁ => IsT B H₁ a T ∧ EL prog w B A env l pos (e :: es) H₁ fun as H₂ => IsT B H₂ a T ∧ OPR prog w B A Pre X cl H₂ (a :: as) (fun vs => call (.builtin id) vs) PE)
    (hbase : attributeBase o name env (eval o env) = eval o env := by rfl)
    (hfew : ((backTo pos (starEach (e :: es) env)).all (fun x => !x.1) && (backToKw pos (keywordEach [] env)).all (fun x => x.1.isSome)
      && decide ((e :: es).length + ([] : List Keyword).length + (if ([] : List Keyword).isEmpty then 0 else 1) < 30)) = true := by rfl)
    (hline : (apos.endLine == pos.line) = true := by rfl) (hplain : (backTo pos (starEach (e :: es) env)).any (·.1) = false := by rfl)
    (he : starEach (e :: es) env = (false, eval e env) :: starEach es env := by rfl) :
    EXR prog w B A env l Pre X cl (.Call (.Attribute o name apos) (e :: es) [] pos) H PE := .mk fun s E hpre hr F hE => by
  refine wpAny_Call_method_late hbase hfew hline rfl (use (h.run s E hr F) fun a v H₁ h₁ tk₁ p r hr₁ t₁ => ?_)
  obtain ⟨hT, p⟩ := p
  refine ⟨T, id, pa, slot, hty, (hT { s with heap := h₁, toks := tk₁ } v hr₁ r).1, (hT { s with heap := h₁, toks := tk₁ } v hr₁ r).2, callWith_builtin hplain ?_⟩
  have p' := p.run { s with heap := h₁, toks := tk₁ } E hr₁ (F.tr t₁)
  rw [he] at p' ⊢
  refine evalArgs_plain (useL p' fun as vs H₂ h₂ tk₂ p₂ r₂ hr₂ t₂ => ?_)
  exact p₂.2.run { s with heap := h₂, toks := tk₂ } E (v :: vs) (hp.no (t₁.trans' t₂) hpre) hr₂ (.cons (r.tr' t₂) r₂) fun v s' x => hE v s' (x.trans (t₁.trans' t₂))
end
end Mine
namespace Mine
open PySem PySem.Calls PyProof.Rows PySem.W

theorem ifyes {c : Prop} {i : Decidable c} {A B : Prop} (h : c) (a : A) : @ite Prop c i A B := by rw [if_pos h]; exact a
theorem ifnot {c : Prop} {i : Decidable c} {A B : Prop} (h : ¬ c) (b : B) : @ite Prop c i A B := by rw [if_neg h]; exact b
noncomputable abbrev PG : Program := PySem.Challenge.rw_in0120_01.row.prog
noncomputable abbrev TB : List Stmt := PySem.Challenge.rw_in0120_01.row.prog.main.body
noncomputable def bodyIn (l : List Stmt) (i : Nat) : List Stmt := match l[i]? with
  | some (.FunctionDef _ _ b _ _ _ _ _ _ _) => b
  | _ => []
noncomputable def argsIn (l : List Stmt) (i : Nat) : Arguments := match l[i]? with
  | some (.FunctionDef _ a _ _ _ _ _ _ _ _) => a
  | _ => ⟨[], [], none, [], [], none, []⟩
noncomputable def scopeIn (l : List Stmt) (i : Nat) : Scope := match l[i]? with
  | some (.FunctionDef _ _ _ _ _ _ s _ _ _) => s
  | _ => ⟨.function, [], false, false, []⟩
noncomputable def FnAt (h : Heap) (l : List Stmt) (i : Nat) (f : Addr) : Prop :=
  ∃ o name qual doc pm an cdv ct, h.get? f = some o ∧ o.data = .func (fnOf name qual (argsIn l i) (bodyIn l i) (scopeIn l i) .none .none doc pm an cdv ct) ∧ h.CodeRec cdv qual
noncomputable def fbit (b : Int) (c : Nat) : AV := .tup [.int b, .str ⟨#[c]⟩]
noncomputable def ftabL : List (List (Int × Nat)) := [[(40960, 108), (49152, 115), (32768, 45), (24576, 98), (16384, 100), (8192, 99), (4096, 112)], [(256, 114)], [(128, 119)], [(2112, 115), (2048, 83), (64, 120)],
  [(32, 114)], [(16, 119)], [(1032, 115), (1024, 83), (8, 120)], [(4, 114)], [(2, 119)], [(513, 116), (512, 84), (1, 120)]]
noncomputable def ftabAV : AV := .tup (ftabL.map fun r => .tup (r.map fun p => fbit p.1 p.2))
noncomputable def misBody : List Stmt := match (TB[7]? : Option Stmt) with
  | some (.ClassDef _ _ _ b _ _ _ _ _ _ _) => b
  | _ => []
structure Ad where
  (sld uld cmp cdp esc trl ifmt fmode bit signs named counted more right law mis misNew chars : Addr)
  (ftab : Value)
structure Wo (w : World) (h : Heap) (gl : Str → Option Value) (D : Ad) : Prop where
  g : h.Ns mainGlobals gl
  b : ∃ mb, h.Ns builtinsNs mb ∧ ∀ x : Str, x ≠ "__name__" → mb x = bootBuiltins x
  nolimit : h.NoLimit
  nodigits : ∃ mc, h.Ns cStatics mc ∧ mc "sys.int_max_str_digits" = none
  range : gl "range" = none
  len : gl "len" = none
  sorted : gl "sorted" = none
  str : gl "str" = none
  tuple : gl "tuple" = none
  enum : gl "enumerate" = none
  zip : gl "zip" = none
  list : gl "list" = none
  object : gl "object" = none
  isinst : gl "isinstance" = none
  ixerr : gl "IndexError" = none
  valerr : gl "ValueError" = none
  sld : gl "sorted_list_difference" = some (.ref D.sld) ∧ FnAt h TB 4 D.sld
  uld : gl "unorderable_list_difference" = some (.ref D.uld) ∧ FnAt h TB 5 D.uld
  cmp : gl "three_way_cmp" = some (.ref D.cmp) ∧ FnAt h TB 6 D.cmp
  cdp : gl "_count_diff_all_purpose" = some (.ref D.cdp) ∧ FnAt h TB 9 D.cdp
  esc : gl "escape" = some (.ref D.esc) ∧ FnAt h TB 13 D.esc
  trl : gl "_translate" = some (.ref D.trl) ∧ FnAt h TB 15 D.trl
  ifmt : gl "S_IFMT" = some (.ref D.ifmt) ∧ FnAt h TB 17 D.ifmt
  fmode : gl "filemode" = some (.ref D.fmode) ∧ FnAt h TB 38 D.fmode
  bit : gl "_law_bit" = some (.ref D.bit) ∧ FnAt h TB 40 D.bit
  signs : gl "_law_signs" = some (.ref D.signs) ∧ FnAt h TB 41 D.signs
  named : gl "_law_named" = some (.ref D.named) ∧ FnAt h TB 42 D.named
  counted : gl "_law_counted" = some (.ref D.counted) ∧ FnAt h TB 43 D.counted
  more : gl "_law_more" = some (.ref D.more) ∧ FnAt h TB 44 D.more
  right : gl "_law_right" = some (.ref D.right) ∧ FnAt h TB 45 D.right
  ftab : gl "_filemode_table" = some D.ftab ∧ VR [] h ftabAV D.ftab
  chars : gl "_special_chars_map" = some (.ref D.chars) ∧ (D.chars == sysModules) = false ∧ ∃ f, h.MapOf (intKind PG w) D.chars f ∧ (∃ u, f 45 = some (.str ⟨#[92, 45]⟩ u)) ∧ f 114 = none ∧ f 119 = none ∧ f 120 = none
  mis : gl "_Mismatch" = some (.ref D.mis) ∧ MisN (model PG w) h D.mis D.misNew ∧ FnAt h misBody 4 D.misNew
theorem Wo.base {w : World} {B : GB} {gl : Str → Option Value} {D : Ad} (W : Wo w B.heap gl D) : Base B gl := ⟨W.g, W.b, W.nolimit, W.nodigits⟩

section
variable {w : World} {B : GB} {A : Around} {H : HP} {gl : Str → Option Value} {D : Ad} {P : AV → HP → Prop}
theorem cf_fn (W : Wo w B.heap gl D) {l : List Stmt} {i : Nat} {f : Addr} {ns : List Str} {as : List AV} {k : Nat} (hf : FnAt B.heap l i f) (R : Rm A (k + 1))
    (h : ∀ name qual doc pm an cdv ct L, B.get? L = none →
      let env := callEnvC (fnOf name qual (argsIn l i) (bodyIn l i) (scopeIn l i) .none .none doc pm an cdv ct) L f
      let A' := A.deeper env
      let B' := B.more L
      Wo w B'.heap gl D → Rm A' k → ST PG w B' A' env (bodyIn l i) (locOf (ns.zip as) []) H (Ret P))
    (hbind : ∀ name qual doc pm an cdv ct, ∀ vs : List Value, vs.length = as.length → bindArgs (fnOf name qual (argsIn l i) (bodyIn l i) (scopeIn l i) .none .none doc pm an cdv ct) ⟨vs, []⟩ = pure (ns.zip vs))
    (hkind : ∀ x ∈ ns, (scopeIn l i).names.lookup x = some .local ∨ (scopeIn l i).names.lookup x = some .cell)
    (hco : (scopeIn l i).isCoroutine = false := by rfl) (hgen : (scopeIn l i).isGenerator = false := by rfl) (hk : (scopeIn l i).kind = .function := by rfl) :
    CF PG w B A H as f P := by
  obtain ⟨o, name, qual, doc, pm, an, cdv, ct, e, d, c⟩ := hf
  exact code_fun W.base e d R.room c rfl rfl rfl (hbind _ _ _ _ _ _ _) hkind (fun L hL => h _ _ _ _ _ _ _ L hL W R.deeper) rfl hco hgen hk
end

theorem VR.ofBase {B : GB} {H : HP} {h : Heap} {a : AV} {v : Value} (r : VR [] B.heap a v) (hr : HR B H h) : VR H h a v :=
  r.tr' ⟨fun b o _ e => .inl (.inl (hr.keep b o e)), fun b hb => .inr (hr.new b hb)⟩
section
variable {prog : Program} {w : World} {B : GB} {A : Around} {env : Env} {l : Loc} {H : HP} {P : AV → HP → Prop}
theorem ex_forget {e : Expr} (h : EX prog w B A env l e H fun v H' => ∃ a xs H₁ H₂, v = .list a ∧ H' = H₁ ++ (a, xs) :: H₂ ∧ P (.lst xs) (H₁ ++ H₂)) : EX prog w B A env l e H P := .mk fun s E hr F =>
  use (h.run s E hr F) fun v x H' h' tk p r hr' t => by
    obtain ⟨a, xs, H₁, H₂, rfl, rfl, p⟩ := p
    cases r
    obtain ⟨hr₂, t₂, r₂⟩ := hr'.forget
    exact ⟨.lst xs, _, h', tk, rfl, p, r₂, hr₂, t.trans' t₂⟩
end
section
variable {prog : Program} {w : World} {B : GB} {A : Around} {env : Env} {l : Loc} {H : HP} {P : AF → Loc → HP → Prop}
theorem st_cons' {st : Stmt} {ss : List Stmt} (h : let K : AF → Loc → HP → Prop := Then prog w B A env ss P
    SX prog w B A env st l H K) : ST prog w B A env (st :: ss) l H P := st_cons h
end
theorem one_arg {vs : List Value} (h : vs.length = 1) : ∃ a, vs = [a] := by
  match vs, h with
  | [a], _ => exact ⟨a, rfl⟩
theorem two_args {vs : List Value} (h : vs.length = 2) : ∃ a b, vs = [a, b] := by
  match vs, h with
  | [a, b], _ => exact ⟨a, b, rfl⟩
theorem three_args {vs : List Value} (h : vs.length = 3) : ∃ a b c, vs = [a, b, c] := by
  match vs, h with
  | [a, b, c], _ => exact ⟨a, b, c, rfl⟩

noncomputable def bit (r : Int) (k : Nat) : Bool := (r.fdiv (2 ^ (8 - k))).fmod 2 == 1
theorem pow_small : ∀ n : Nat, n < 9 → ((2 : Int) ^ n ≠ 0 ∧ ((2 : Int) ^ n).natAbs < 1073741824) := by decide

section
variable {w : World} {B : GB} {A : Around} {env : Env} {l : Loc} {H : HP} {gl : Str → Option Value} {D : Ad} {P : AV → HP → Prop}
noncomputable abbrev KCF (prog : Program) (w : World) (B : GB) (A : Around) (f : Addr) (P : AV → HP → Prop) (as : List AV) (H₂ : HP) : Prop := CF prog w B A H₂ as f P
theorem ex_callG (W : Wo w B.heap gl D) {x : Str} {px pos : Pos} {e : Expr} {es : List Expr} {f : Addr} {tl : List Stmt} {i : Nat} (hf : gl x = some (.ref f) ∧ FnAt B.heap tl i f)
    (h : EL PG w B A env l pos (e :: es) H (KCF PG w B A f P)) (hx : env.kindOf x = some .globalImplicit := by rfl) (hd : (x == ("__debug__" : Str)) = false := by decide)
    (he : starEach (e :: es) env = (false, eval e env) :: starEach es env := by rfl) : EX PG w B A env l (.Call (.Name x px) (e :: es) [] pos) H P := by
  obtain ⟨hg, o, name, qual, doc, pm, an, cdv, ct, ho, d, c⟩ := hf
  exact ex_callF ho d (ex_global W.base hx hg (fun _ _ => .val _) ⟨rfl, .mk fun s E hr F => useL (h.run s E hr F) fun as vs H₁ h₁ tk₁ p r hr₁ t₁ => ⟨as, H₁, h₁, tk₁, rfl, p.op, r, hr₁, t₁⟩⟩ hd) he
theorem ex_callBi (W : Wo w B.heap gl D) {x : Str} {px pos : Pos} {e : Expr} {es : List Expr} {id : String} (hv : gl x = none) (hb : bootBuiltins x = some (.builtin id))
    (h : EL PG w B A env l pos (e :: es) H (KOps PG w B A (cl (.builtin id)) P)) (hx : env.kindOf x = some .globalImplicit := by rfl) (hn : x ≠ "__name__" := by decide) (hd : (x == ("__debug__" : Str)) = false := by decide)
    (he : starEach (e :: es) env = (false, eval e env) :: starEach es env := by rfl) (hplain : (backTo pos (starEach es env)).any (·.1) = false := by rfl) : EX PG w B A env l (.Call (.Name x px) (e :: es) [] pos) H P :=
  ex_callB (ex_builtin W.base hx hv hb ⟨rfl, h⟩ hn hd) he hplain
theorem ex_callTy (W : Wo w B.heap gl D) {x : Str} {px pos : Pos} {e : Expr} {es : List Expr} {T : String} (hv : gl x = none) (hb : bootBuiltins x = some (.type T))
    (h : EL PG w B A env l pos (e :: es) H (KOps PG w B A (cl (.type T)) P)) (hx : env.kindOf x = some .globalImplicit := by rfl) (hn : x ≠ "__name__" := by decide) (hd : (x == ("__debug__" : Str)) = false := by decide)
    (he : starEach (e :: es) env = (false, eval e env) :: starEach es env := by rfl) (hplain : (backTo pos (starEach es env)).any (·.1) = false := by rfl) : EX PG w B A env l (.Call (.Name x px) (e :: es) [] pos) H P :=
  ex_callT (ex_builtin W.base hx hv hb ⟨rfl, h⟩ hn hd) he hplain
theorem itx_callTy (W : Wo w B.heap gl D) {x : Str} {px pos : Pos} {e : Expr} {es : List Expr} {T : String} {tgt : Expr} {soft : Bool} {P : (HP → Option (List AV)) → HP → Prop} (hv : gl x = none) (hb : bootBuiltins x = some (.type T))
    (h : EL PG w B A env l pos (e :: es) H fun as H₂ => OPI PG w B A T tgt soft as H₂ P) (hx : env.kindOf x = some .globalImplicit := by rfl) (hn : x ≠ "__name__" := by decide) (hd : (x == ("__debug__" : Str)) = false := by decide)
    (he : starEach (e :: es) env = (false, eval e env) :: starEach es env := by rfl) (hplain : (backTo pos (starEach es env)).any (·.1) = false := by rfl) : ITX PG w B A env l (.Call (.Name x px) (e :: es) [] pos) tgt soft H P :=
  itx_callT (ex_builtin W.base hx hv hb ⟨rfl, h⟩ hn hd) he hplain
end
theorem mem_nums {a c : Int} {n : Nat} {x : AV} (h : x ∈ nums a c n) : ∃ i, i < n ∧ x = .int (a + (i : Int) * c) := by
  obtain ⟨i, hi, rfl⟩ := List.mem_map.mp h
  exact ⟨i, List.mem_range.mp hi, rfl⟩

section
variable {w : World} {B : GB} {A : Around} {H : HP} {gl : Str → Option Value} {D : Ad} {P : AV → HP → Prop}
theorem c_bit (W : Wo w B.heap gl D) (R : Rm A 1) {r : Int} {k : Nat} (hk : k ≤ 8) (p : P (.bool (bit r k)) H) :
    CF PG w B A H [.int r, .int k] D.bit P := by
  refine cf_fn (ns := ["rights", "k"]) W W.bit.2 R (fun name qual doc pm an cdv ct L hL => ?_) (fun _ _ _ _ _ _ _ vs h => ?_) (by decide)
  · intro env A' B' W R'
    have hn := pow_small (8 - k) (by omega)
    have e : ((8 : Int) - k).toNat = 8 - k := by omega
    refine st_cons (sx_return (ex_cmp1 (ex_binop (ex_binop (ex_local rfl rfl (ex_binop (ex_int (ex_binop (ex_int (ex_local rfl rfl (op_sub (op_pow ?_ ?_ (op_fdiv ?_ ?_ (ex_int (op_fmod ?_ (ex_int (op_eq ?_)))))))))))))))))
    · omega
    · have : Builtin.Int.intBits 2 = 2 := by decide +kernel
      rw [this]; omega
    · rw [e]; exact hn.1
    · rw [e]; exact hn.2
    · decide
    · rw [e]; exact p
  · obtain ⟨a, b, rfl⟩ := two_args h; rfl
end
end Mine
namespace Mine
open PySem PySem.Calls PyProof.Rows PySem.W

noncomputable def sx (l : List Nat) : Str := ⟨l.toArray⟩
theorem sx_append (l m : List Nat) : sx l ++ sx m = sx (l ++ m) := by
  show Str.append _ _ = _
  simp [sx, Str.append]
theorem sx_length (l : List Nat) : (sx l).length = l.length := by simp [sx, Str.length]
noncomputable def sgc (k : Nat) : Nat := [114, 119, 120].getD (k % 3) 0
noncomputable def nine (p : Nat → Bool) : List Nat := (List.range 9).map fun k => if p k = true then sgc k else 45
noncomputable def signL (p : Nat → Bool) : List Nat := 45 :: nine p
noncomputable def onInt {α : Type} (d : α) (f : Nat → α) : AV → α
  | .int i => f i.toNat
  | _ => d
theorem map_nums {α : Type} (d : α) (f : Nat → α) (n : Nat) : (nums 0 1 n).map (onInt d f) = (List.range n).map f := by
  unfold nums
  rw [List.map_map]
  refine List.map_congr_left fun i _ => ?_
  simp [onInt]
theorem filter_nums (p : Nat → Bool) (n : Nat) : (nums 0 1 n).filter (onInt false p) = ((List.range n).filter p).map fun i => .int (i : Nat) := by
  unfold nums
  rw [List.filter_map]
  simp only [Int.mul_one, Int.zero_add]
  congr 1
theorem fmap_nums {α : Type} (d : α) (p : Nat → Bool) (f : Nat → α) (n : Nat) : ((nums 0 1 n).filter (onInt false p)).map (onInt d f) = ((List.range n).filter p).map f := by
  rw [filter_nums, List.map_map]
  refine List.map_congr_left fun i _ => ?_
  simp [onInt]
theorem rwx_at (i : Nat) (hi : i < 9) : (Str.ofString "rwx").cps[(Int.fmod (i : Int) 3).toNat]? = some (sgc i) := by
  have : i = 0 ∨ i = 1 ∨ i = 2 ∨ i = 3 ∨ i = 4 ∨ i = 5 ∨ i = 6 ∨ i = 7 ∨ i = 8 := by omega
  rcases this with rfl | rfl | rfl | rfl | rfl | rfl | rfl | rfl | rfl <;> decide +kernel
theorem join_ones : ∀ l : List Nat, Str.join (Str.ofString "") (l.map fun c => sx [c]) = sx l
  | [] => rfl
  | [c] => rfl
  | c :: d :: l => by
    show Str.append (Str.append (sx [c]) (Str.ofString "")) (Str.join (Str.ofString "") ((d :: l).map fun c => sx [c])) = _
    rw [join_ones (d :: l), show Str.ofString "" = sx [] from by decide +kernel]
    show (sx [c] ++ sx []) ++ sx (d :: l) = _
    rw [sx_append, sx_append]; rfl
theorem join_nil (l : List Nat) : Txt.join (Str.ofString "") (l.map fun c => sx [c]) = sx l := (PySem.StrLaws.glued_eq_join ..).trans (join_ones l)
theorem sum_ones (l : List Nat) : ((l.map fun c => sx [c]).map (·.length)).sum = l.length := by
  induction l with
  | nil => rfl
  | cons c l ih => rw [List.map_cons, List.map_cons, List.sum_cons, ih, sx_length, List.length_cons]; simp; omega

section
variable {w : World} {B : GB} {A : Around} {H : HP} {gl : Str → Option Value} {D : Ad} {P : AV → HP → Prop}
theorem c_signs (W : Wo w B.heap gl D) (R : Rm A 2) {r : Int} (p : P (.str (sx (signL (bit r)))) H) : CF PG w B A H [.int r] D.signs P := by
  refine cf_fn (ns := ["rights"]) W W.signs.2 R (fun name qual doc pm an cdv ct L hL => ?_) (fun _ _ _ _ _ _ _ vs h => ?_) (by decide)
  · intro env A' B' W R'
    refine st_cons' ?_
    intro K
    refine sx_return (ex_binop (ex_str (ex_meth F.plainAttrs_str F.slot_str_join F.type_str_join (ex_str ⟨isT_str, el_cons ?_⟩))))
    refine ex_comp (l₀ := [("rights", .int r)]) (p := fun _ => true) (f := onInt .none fun k => .str (sx [if bit r k = true then sgc k else 45])) (soft := false) rfl (by decide) rfl (by decide) ⟨⟨rfl, rfl, rfl, rfl⟩, trivial⟩ ?_
    refine itx_callTy W W.range rfl ?_
    refine el_cons (ex_int (el_nil ?_))
    refine opi_range1 R'.hh (by decide) (by decide) ?_
    refine ⟨_, fun _ _ => rfl, by decide, fun h => (nomatch h), fun x hx C D acc hacc => ?_, ?_⟩
    · obtain ⟨i, hi, rfl⟩ := mem_nums hx
      have hi : i < 9 := hi
      refine as_name (as_local rfl ⟨rfl, Sub.put (Sub.refl _) rfl, ts_nil ⟨rfl, rfl, fun _ => ?_⟩⟩)
      rw [show (0 : Int) + (i : Int) * 1 = i by omega]
      refine ex_ifexp (tx_value ?_)
      refine ex_callG W W.bit ?_
      refine el_cons (ex_cell rfl rfl (el_cons (ex_local rfl rfl (el_nil ?_))))
      refine c_bit W R' (by omega) (opb_bool ?_)
      by_cases hb : bit r i = true
      · (first | refine ifyes hb ?_ | rw [if_pos hb])
        refine ex_item item_str ?_
        refine ex_str (ex_binop (ex_local rfl rfl (ex_int (op_fmod (by decide) ⟨isT_str, ?_⟩))))
        refine op_itemS (Int.fmod_nonneg_of_pos _ (by decide)) (rwx_at i hi) (by decide) ⟨rfl, ?_⟩
        simp [onInt, hb, sx]
      · (first | refine ifnot hb ?_ | rw [if_neg hb])
        refine ex_str ⟨rfl, ?_⟩
        simp [onInt, hb, sx]
        rfl
    · rw [show List.filter (fun x => true) (nums 0 1 (Int.toNat 9)) = nums 0 1 9 from List.filter_eq_self.mpr (fun _ _ => rfl), map_nums]
      have e : (List.range 9).map (fun k => AV.str (sx [if bit r k = true then sgc k else 45])) = txts ((nine (bit r)).map fun c => sx [c]) := by simp [nine]
      rw [e]
      refine el_nil ⟨isT_str, op_join rfl rfl ?_ ?_⟩
      · rw [sum_ones]; simp [nine, show (Str.ofString "").length = 0 from by decide +kernel]
      · rw [join_nil]
        refine op_adds ?_ ?_
        · rw [sx_length, show (Str.ofString "-").length = 1 from by decide +kernel]; simp [nine]
        · rw [show Str.ofString "-" = sx [45] from by decide +kernel, sx_append]; exact p
  · obtain ⟨a, rfl⟩ := one_arg h; rfl
end
end Mine
namespace Mine
open PySem PySem.Calls PyProof.Rows PySem.W

noncomputable abbrev leS (a b : Str) : Prop := a.cps.toList ≤ b.cps.toList
theorem pw_of_rising : ∀ (p : Str) (l : List Str), risingS p l = true → (p :: l).Pairwise leS
  | p, [], _ => List.pairwise_singleton ..
  | p, x :: r, h => by
    have h' : (!Spec.ltCps x.cps.toList p.cps.toList && risingS x r) = true := h
    rw [ltCps_eq] at h'
    simp only [Bool.and_eq_true, Bool.not_eq_true', decide_eq_false_iff_not] at h'
    have ih := pw_of_rising x r h'.2
    have hpx : leS p x := h'.1
    refine List.pairwise_cons.mpr ⟨fun y hy => ?_, ih⟩
    rcases List.mem_cons.mp hy with rfl | hy
    · exact hpx
    · exact List.le_trans hpx (List.rel_of_pairwise_cons ih hy)
theorem pw_of_sorted : ∀ l : List Str, sortedS l = true → l.Pairwise leS
  | [], _ => .nil
  | x :: r, h => pw_of_rising x r h
theorem sorted_is {l m k : List Str} (h1 : l.Perm m) (h2 : sortedS l = true) (h3 : k.Perm m) (h4 : k.Pairwise leS) : l = k :=
  List.Perm.eq_of_pairwise (le := leS) (fun a b _ _ x y => by
    have := List.le_antisymm x y
    cases a; cases b; simpa using this) (pw_of_sorted l h2) h4 (h1.trans h3.symm)

noncomputable def nm (k : Nat) : List Nat := [sgc k, 48 + k / 3]
noncomputable def ord : List Nat := [0, 3, 6, 1, 4, 7, 2, 5, 8]
noncomputable def named (p q : Nat → Bool) : List Nat := ord.filter fun k => p k && !q k
noncomputable def nms (l : List Nat) : List Str := l.map fun k => sx (nm k)
theorem txts_nms (l : List Nat) : l.map (fun k => AV.str (sx (nm k))) = txts (nms l) := (List.map_map ..).symm
theorem nms_sorted {l : List Nat} {f : Nat → Bool} (h1 : l = ord.filter f) : (nms l).Pairwise leS := by
  subst h1
  refine List.pairwise_map.mpr (List.Pairwise.filter _ ?_)
  decide +kernel
theorem nms_perm (f : Nat → Bool) : (nms (ord.filter f)).Perm (((List.range 9).filter f).map fun k => sx (nm k)) :=
  ((show ord.Perm (List.range 9) by decide +kernel).filter _).map _
theorem num_at (i : Nat) (hi : i < 9) : Str.ofString (toString (Int.fdiv (i : Int) 3)) = sx [48 + i / 3] := by
  have : i = 0 ∨ i = 1 ∨ i = 2 ∨ i = 3 ∨ i = 4 ∨ i = 5 ∨ i = 6 ∨ i = 7 ∨ i = 8 := by omega
  rcases this with rfl | rfl | rfl | rfl | rfl | rfl | rfl | rfl | rfl <;> decide +kernel
theorem named_len (p q : Nat → Bool) : (named p q).length ≤ 9 := List.length_filter_le ..

section
variable {w : World} {B : GB} {A : Around} {H : HP} {gl : Str → Option Value} {D : Ad} {P : AV → HP → Prop}
theorem c_named (W : Wo w B.heap gl D) (R : Rm A 2) {r o : Int} (p : P (.lst (txts (nms (named (bit r) (bit o))))) H) : CF PG w B A H [.int r, .int o] D.named P := by
  refine cf_fn (ns := ["rights", "other"]) W W.named.2 R (fun name qual doc pm an cdv ct L hL => ?_) (fun _ _ _ _ _ _ _ vs h => ?_) (by decide)
  · intro env A' B' W R'
    refine st_cons' ?_
    intro K
    refine sx_return ?_
    refine ex_callBi (id := "sorted") W W.sorted rfl ?_
    refine el_cons ?_
    refine ex_comp (l₀ := [("rights", .int r), ("other", .int o)]) (p := onInt false fun k => bit r k && !bit o k) (f := onInt .none fun k => .str (sx (nm k))) (soft := false) rfl (by decide) rfl (by decide) ⟨⟨rfl, rfl, rfl, rfl⟩, ⟨rfl, rfl, rfl, rfl⟩, trivial⟩ ?_
    refine itx_callTy W W.range rfl ?_
    refine el_cons (ex_int (el_nil ?_))
    refine opi_range1 R'.hh (by decide) (by decide) ?_
    refine ⟨_, fun _ _ => rfl, by decide, fun h => (nomatch h), fun x hx C D acc hacc => ?_, ?_⟩
    · obtain ⟨i, hi, rfl⟩ := mem_nums hx
      have hi : i < 9 := hi
      refine as_name (as_local rfl ⟨rfl, Sub.put (Sub.refl _) rfl, ts_one (tx_and2 ?_)⟩)
      rw [show (0 : Int) + (i : Int) * 1 = i by omega]
      refine tx_value ?_
      refine ex_callG W W.bit ?_
      refine el_cons (ex_cell rfl rfl (el_cons (ex_local rfl rfl (el_nil ?_))))
      refine c_bit W R' (by omega) (opb_bool ?_)
      by_cases hb : bit r i = true
      · (first | refine ifyes hb ?_ | rw [if_pos hb])
        refine tx_not (tx_value ?_)
        refine ex_callG W W.bit ?_
        refine el_cons (ex_cell rfl rfl (el_cons (ex_local rfl rfl (el_nil ?_))))
        refine c_bit W R' (by omega) (opb_bool ⟨rfl, by simp [onInt, hb], fun _ => ?_⟩)
        refine ex_binop ?_
        refine ex_item item_str ?_
        refine ex_str (ex_binop (ex_local rfl rfl (ex_int (op_fmod (by decide) ⟨isT_str, ?_⟩))))
        refine op_itemS (Int.fmod_nonneg_of_pos _ (by decide)) (rwx_at i hi) (by decide) ?_
        refine ex_callTy W W.str rfl ?_
        refine el_cons (ex_binop (ex_local rfl rfl (ex_int (op_fdiv (by decide) (by decide) (el_nil ?_)))))
        have h3 : Int.fdiv (i : Int) 3 = ((i / 3 : Nat) : Int) := by
          rw [Int.fdiv_eq_ediv_of_nonneg _ (by decide)]; rfl
        refine op_strInt (by rw [h3]; omega) ?_
        rw [num_at i hi]
        refine op_adds (by rw [sx_length]; show 1 + 1 ≤ 1000; decide) ⟨rfl, ?_⟩
        rw [show (⟨#[sgc i]⟩ : Str) = sx [sgc i] from rfl, sx_append]
        rfl
      · (first | refine ifnot hb ?_ | rw [if_neg hb])
        have hb : bit r i = false := by simpa using hb
        exact ⟨rfl, by simp [onInt, hb], fun h => (nomatch h)⟩
    · rw [show Int.toNat 9 = 9 from rfl, fmap_nums, txts_nms]
      refine el_nil (op_sorted rfl rfl ?_ fun ss' hp hs => ?_)
      · rw [nms, List.length_map]
        exact Nat.lt_of_le_of_lt (List.length_filter_le ..) (by decide)
      · rw [sorted_is hp hs (nms_perm _) (nms_sorted rfl)]
        exact p
  · obtain ⟨a, b, rfl⟩ := two_args h; rfl
theorem c_cmpI (W : Wo w B.heap gl D) (R : Rm A 1) {x y : Int} (p : P (.int (b2i (decide (y < x)) - b2i (decide (x < y)))) H) : CF PG w B A H [.int x, .int y] D.cmp P := by
  refine cf_fn (ns := ["x", "y"]) W W.cmp.2 R (fun name qual doc pm an cdv ct L hL => ?_) (fun _ _ _ _ _ _ _ vs h => ?_) (by decide)
  · intro env A' B' W R'
    refine st_cons' ?_
    intro K
    refine sx_expr (ex_str ?_)
    refine st_cons' ?_
    intro K
    refine sx_return (ex_binop (ex_cmp1 (ex_local rfl rfl (ex_local rfl rfl (op_gt (ex_cmp1 (ex_local rfl rfl (ex_local rfl rfl (op_lt (op_subb p))))))))))
  · obtain ⟨a, b, rfl⟩ := two_args h; rfl
theorem c_cmpS (W : Wo w B.heap gl D) (R : Rm A 1) {x y : List Nat} (p : P (.int (b2i (decide (y < x)) - b2i (decide (x < y)))) H) : CF PG w B A H [.str (sx x), .str (sx y)] D.cmp P := by
  refine cf_fn (ns := ["x", "y"]) W W.cmp.2 R (fun name qual doc pm an cdv ct L hL => ?_) (fun _ _ _ _ _ _ _ vs h => ?_) (by decide)
  · intro env A' B' W R'
    refine st_cons' ?_
    intro K
    refine sx_expr (ex_str ?_)
    refine st_cons' ?_
    intro K
    refine sx_return (ex_binop (ex_cmp1 (ex_local rfl rfl (ex_local rfl rfl (op_gts (ex_cmp1 (ex_local rfl rfl (ex_local rfl rfl (op_lts (op_subb ?_))))))))))
    have e : ∀ a b : List Nat, (decide ((sx a).cps.toList < (sx b).cps.toList)) = decide (a < b) := fun a b => decide_eq_decide.mpr (by simp [sx])
    show P _ H
    rw [e, e]
    exact p
  · obtain ⟨a, b, rfl⟩ := two_args h; rfl
theorem c_ifmt (W : Wo w B.heap gl D) (R : Rm A 1) {m : Int} (p : P (.int (Builtin.bitAnd m 61440)) H) : CF PG w B A H [.int m] D.ifmt P := by
  refine cf_fn (ns := ["mode"]) W W.ifmt.2 R (fun name qual doc pm an cdv ct L hL => ?_) (fun _ _ _ _ _ _ _ vs h => ?_) (by decide)
  · intro env A' B' W R'
    refine st_cons' ?_
    intro K
    refine sx_expr (ex_str ?_)
    exact st_cons (sx_return (ex_binop (ex_local rfl rfl (ex_int (op_and p)))))
  · obtain ⟨a, rfl⟩ := one_arg h; rfl
end
end Mine
namespace Mine
open PySem PySem.Calls PyProof.Rows PySem.W

section
variable {prog : Program} {w : World} {B : GB} {A : Around} {env : Env} {l l₀ : Loc} {H : HP}
theorem st_less {ss : List Stmt} {P : AF → Loc → HP → Prop} (hs : Sub l₀ l) (h : ST prog w B A env ss l₀ H P) : ST prog w B A env ss l H P := .mk fun s E hr F => h.run s E hr (F.less hs)
theorem as_less {t : Value → Sem Unit} {a : AV} {P : Loc → HP → Prop} (hs : Sub l₀ l) (h : AS prog w B A env t a l₀ H P) : AS prog w B A env t a l H P := .mk fun s E v hr F r => h.run s E v hr (F.less hs) r
end
section
variable {prog : Program} {w : World} {B : GB} {A : Around} {env : Env} {l : Loc} {H : HP}
theorem sx_push {x : Str} {e : Expr} {q : Addr} {xp apos pos spos : Pos} {P : AF → Loc → HP → Prop} (hx : env.kindOf x = some .local) (hl : lk l x = some (.list q)) (hk : q ∈ keys H)
    (h : EX prog w B A env l e H fun a H' => ∃ H₁ xs H₂, H' = H₁ ++ (q, xs) :: H₂ ∧ xs.length ≤ 1000 ∧ P .next l (H₁ ++ (q, xs ++ [a]) :: H₂))
    (hbase : attributeBase (.Name x xp) "append" env (eval (.Name x xp) env) = eval (.Name x xp) env := by rfl)
    (hfew : ((backTo pos (starEach [e] env)).all (fun x => !x.1) && (backToKw pos (keywordEach [] env)).all (fun x => x.1.isSome)
      && decide (([e] : List Expr).length + ([] : List Keyword).length + (if ([] : List Keyword).isEmpty then 0 else 1) < 30)) = true := by rfl)
    (hline : (apos.endLine == pos.line) = true := by rfl) (hplain : (backTo pos (starEach [e] env)).any (·.1) = false := by rfl)
    (he : starEach [e] env = (false, eval e env) :: starEach [] env := by rfl) (hd : (x == ("__debug__" : Str)) = false := by decide)
    (hi : interactive env = false := by rfl) (hs : swapsWith (.Call (.Attribute (.Name x xp) "append" apos) [e] [] pos) none spos.line env = pure false := by rfl) :
    SX prog w B A env (.Expr (.Call (.Attribute (.Name x xp) "append" apos) [e] [] pos) spos) l H P := by
  refine sx_expr (P := P) ?_ hi hs
  refine ex_meth F.plainAttrs_list F.slot_list_append (by first | exact F.type_list_append | decide +kernel) ?_ hbase hfew hline hplain he
  refine ex_local hx hl ⟨isT_list hk, ?_⟩ hd
  refine el_cons ?_ he
  refine h.mono fun a H' p => ?_
  obtain ⟨H₁, xs, H₂, rfl, hsz, p⟩ := p
  exact el_nil ⟨isT_list (by simp [keys]), op_append hsz p⟩
end
section
variable {prog : Program} {w : World} {B : GB} {A : Around} {env : Env} {l : Loc} {H : HP} {P : AV → HP → Prop}
theorem ex_drop {e : Expr} (h : EX prog w B A env l e H fun v H' => ∃ H₁ a xs H₂, H' = H₁ ++ (a, xs) :: H₂ ∧ P v (H₁ ++ H₂)) : EX prog w B A env l e H P := .mk fun s E hr F =>
  use (h.run s E hr F) fun v x H' h' tk p r hr' t => by
    obtain ⟨H₁, a, xs, H₂, rfl, p⟩ := p
    obtain ⟨hr₂, t₂, r₂⟩ := hr'.forget
    exact ⟨v, _, h', tk, rfl, p, r.tr' t₂, hr₂, t.trans' t₂⟩
theorem seq_head {a : Addr} {xs : List AV} : seqOf (.list a) ((a, xs) :: H) = some xs := by simp [seqOf, List.lookup_cons]
end
noncomputable def Has (l' : Loc) : Loc → Prop
  | [] => True
  | p :: r => lk l' p.1 = some p.2 ∧ Has l' r
theorem Has.sub {l' : Loc} : ∀ {l : Loc}, Has l' l → Sub l l'
  | [], _, x, a, e => nomatch e
  | p :: r, h, x, a, e => by
    unfold lk at e
    by_cases q : x = p.1
    · rw [if_pos q] at e; cases e; rw [q]; exact h.1
    · rw [if_neg q] at e; exact h.2.sub x a e
theorem lk_some_put {l : Loc} {x y : Str} {a b : AV} (h : lk l y = some b) (hn : y ≠ x) : lk (put l x a) y = some b := by rw [lk_put, if_neg hn, h]

noncomputable def rowHit (i : Nat) (m : Int) (p : Int × Nat) : Bool := if i = 0 then Builtin.bitAnd m 61440 == p.1 else Builtin.bitAnd m p.1 == p.1
noncomputable def rowSign (i : Nat) (m : Int) (r : List (Int × Nat)) : Nat := match r.find? (rowHit i m) with
  | some p => p.2
  | none => if i = 0 then 63 else 45
noncomputable def modeL (m : Int) : List Nat := ftabL.mapIdx fun i r => rowSign i m r
theorem find_take : ∀ (r : List (Int × Nat)) (i : Nat) (m : Int) (j : Nat) (p : Int × Nat), r[j]? = some p → (∀ t q, t < j → r[t]? = some q → rowHit i m q = false) → rowHit i m p = true → rowSign i m r = p.2
  | [], _, _, _, _, h, _, _ => by simp at h
  | q :: r, i, m, 0, p, h, _, hp => by
    simp at h; subst h
    simp [rowSign, List.find?_cons, hp]
  | q :: r, i, m, j + 1, p, h, hn, hp => by
    have h0 := hn 0 q (by omega) rfl
    have := find_take r i m j p (by simpa using h) (fun t q' ht hq => hn (t + 1) q' (by omega) (by simpa using hq)) hp
    simpa [rowSign, List.find?_cons, h0] using this
theorem find_none {r : List (Int × Nat)} {i : Nat} {m : Int} (hn : ∀ t q, t < r.length → r[t]? = some q → rowHit i m q = false) : rowSign i m r = if i = 0 then 63 else 45 := by
  have : r.find? (rowHit i m) = none := List.find?_eq_none.mpr fun p hp => by
    obtain ⟨t, ht, rfl⟩ := List.getElem_of_mem hp
    simp [hn t r[t] ht (List.getElem?_eq_getElem ht)]
  simp [rowSign, this]

section
variable {w : World} {B : GB} {A : Around} {H : HP} {gl : Str → Option Value} {D : Ad} {P : AV → HP → Prop}
theorem c_filemode (W : Wo w B.heap gl D) (R : Rm A 2) {m : Int} (p : P (.str (sx (modeL m))) H) : CF PG w B A H [.int m] D.fmode P := by
  refine cf_fn (ns := ["mode"]) W W.fmode.2 R (fun name qual doc pm an cdv ct L hL => ?_) (fun _ _ _ _ _ _ _ vs h => ?_) (by decide)
  · intro env A' B' W R'
    refine st_cons' ?_
    intro K
    refine sx_expr (ex_str ?_)
    refine st_cons' ?_
    intro K
    refine sx_assign (ex_listT (el_nil ⟨by decide, fun q => as_local rfl ?_⟩))
    refine st_cons' ?_
    intro K
    refine sx_for (n := 10) ?_
    refine itx_callTy W W.enum rfl ?_
    refine el_cons (ex_global W.base rfl W.ftab.1 (fun h hr => W.ftab.2.ofBase hr) (el_nil ?_))
    refine opi_enumTup R'.hh ?_
    let Inv : Nat → Loc → HP → Prop := fun i l' H' => i ≤ 10 ∧ Sub [("mode", .int m), ("perm", .list q)] l' ∧ H' = (q, txts (((modeL m).take i).map fun c => sx [c])) :: H
    refine ⟨Inv, ⟨by decide, Sub.refl _, rfl⟩, ?_⟩
    rintro i l' H' ⟨hi, hs, rfl⟩
    have hlen : (modeL m).length = 10 := by simp [modeL]; decide
    refine ⟨_, rfl, by decide, hi, fun x hx => ?_, fun hi => ?_⟩
    · obtain ⟨row, hrow, rfl⟩ := enumd_get hx
      obtain ⟨r, hr, rfl⟩ : ∃ r, ftabL[i]? = some r ∧ row = .tup (r.map fun p => fbit p.1 p.2) := by
        rw [List.getElem?_map] at hrow
        obtain ⟨r, h1, h2⟩ := Option.map_eq_some_iff.mp hrow
        exact ⟨r, h1, h2.symm⟩
      have hi' : i < 10 := by
        have := (List.getElem?_eq_some_iff.mp hr).1
        exact this
      have hrs : (modeL m)[i]? = some (rowSign i m r) := by simp [modeL, hr]
      have htk : txts (((modeL m).take (i + 1)).map fun c => sx [c]) = txts (((modeL m).take i).map fun c => sx [c]) ++ [.str (sx [rowSign i m r])] := by
        rw [take_succ_of hrs]; simp [txts]
      have hsz : (txts (((modeL m).take i).map fun c => sx [c])).length ≤ 1000 := by simp [txts]; omega
      generalize txts (((modeL m).take i).map fun c => sx [c]) = acc at *
      refine as_less hs (as_tuple2 R'.hh (as_bind (as_local rfl (as_bind (as_local rfl ?_)))))
      refine st_cons' ?_
      intro K
      refine sx_for (n := r.length) ?_
      refine itx_value (ex_local rfl rfl (itr_tup R'.hh ?_))
      let Inv : Nat → Loc → HP → Prop := fun j l' H' => j ≤ r.length ∧ Sub [("mode", .int m), ("perm", .list q), ("index", .int i), ("table", .tup (r.map fun p => fbit p.1 p.2))] l' ∧ H' = (q, acc) :: H ∧ ∀ t p, t < j → r[t]? = some p → rowHit i m p = false
      refine ⟨Inv, ⟨by omega, Sub.refl _, rfl, fun _ _ h => absurd h (Nat.not_lt_zero _)⟩, ?_⟩
      rintro j l' H' ⟨hj, hs', rfl, hno⟩
      refine ⟨_, rfl, by simp, hj, fun x hx => ?_, fun hj => ?_⟩
      · obtain ⟨⟨b, c⟩, hp, rfl⟩ : ∃ p, r[j]? = some p ∧ x = fbit p.1 p.2 := by
          rw [List.getElem?_map] at hx
          obtain ⟨r, h1, h2⟩ := Option.map_eq_some_iff.mp hx
          exact ⟨r, h1, h2.symm⟩
        have hj' : j < r.length := (List.getElem?_eq_some_iff.mp hp).1
        refine as_less hs' (as_tuple2 R'.hh (as_bind (as_local rfl (as_bind (as_local rfl ?_)))))
        have yes (h : rowHit i m (b, c) = true) : rowSign i m r = c := find_take r i m j _ hp hno h
        have no (h : rowHit i m (b, c) = false) : ∀ t p, t < j + 1 → r[t]? = some p → rowHit i m p = false := fun t p ht hp' => by
          by_cases e : t = j
          · subst e; rw [hp] at hp'; cases hp'; exact h
          · exact hno t p (by omega) hp'
        refine st_cons' ?_
        intro K
        refine sx_if (tx_cmp1 (ex_local rfl rfl (ex_int (op_eq ⟨_, rfl, ?_⟩))))
        by_cases h0 : i = 0
        · have e0 : ((i : Int) == 0) = true := by simp [h0]
          (first | refine ifyes e0 ?_ | rw [if_pos e0])
          refine st_cons' ?_
          intro K
          refine sx_if (tx_cmp1 ?_)
          refine ex_callG W W.ifmt ?_
          refine el_cons (ex_local rfl rfl (el_nil (c_ifmt W R' ?_)))
          refine ex_local rfl rfl (op_eq ⟨_, rfl, ?_⟩)
          by_cases h1 : (Builtin.bitAnd m 61440 == b) = true
          · (first | refine ifyes h1 ?_ | rw [if_pos h1])
            refine st_cons' ?_
            intro K
            refine sx_push rfl rfl (by simp) (ex_local rfl rfl ⟨[], _, H, rfl, hsz, ?_⟩)
            refine st_cons' ?_
            intro K
            refine sx_break (st_nil ⟨by omega, Has.sub ⟨rfl, rfl, trivial⟩, ?_⟩)
            rw [htk, yes (by simpa [rowHit, h0] using h1)]; rfl
          · (first | refine ifnot h1 ?_ | rw [if_neg h1])
            exact st_nil (st_nil (st_nil ⟨by omega, Has.sub ⟨rfl, rfl, rfl, rfl, trivial⟩, rfl, no (by simpa [rowHit, h0] using h1)⟩))
        · have e0 : ¬ ((i : Int) == 0) = true := by simpa using h0
          (first | refine ifnot e0 ?_ | rw [if_neg e0])
          refine st_cons' ?_
          intro K
          refine sx_if (tx_cmp1 (ex_binop (ex_local rfl rfl (ex_local rfl rfl (op_and (ex_local rfl rfl (op_eq ⟨_, rfl, ?_⟩)))))))
          by_cases h1 : (Builtin.bitAnd m b == b) = true
          · (first | refine ifyes h1 ?_ | rw [if_pos h1])
            refine st_cons' ?_
            intro K
            refine sx_push rfl rfl (by simp) (ex_local rfl rfl ⟨[], _, H, rfl, hsz, ?_⟩)
            refine st_cons' ?_
            intro K
            refine sx_break (st_nil ⟨by omega, Has.sub ⟨rfl, rfl, trivial⟩, ?_⟩)
            rw [htk, yes (by simpa [rowHit, h0] using h1)]; rfl
          · (first | refine ifnot h1 ?_ | rw [if_neg h1])
            exact st_nil (st_nil (st_nil ⟨by omega, Has.sub ⟨rfl, rfl, rfl, rfl, trivial⟩, rfl, no (by simpa [rowHit, h0] using h1)⟩))
      · have none := find_none (i := i) (m := m) (r := r) (fun t p ht hp => hno t p (by omega) hp)
        refine st_less hs' (st_cons' ?_)
        intro K
        refine sx_if (tx_cmp1 (ex_local rfl rfl (ex_int (op_eq ⟨_, rfl, ?_⟩))))
        by_cases h0 : i = 0
        · have e0 : ((i : Int) == 0) = true := by simp [h0]
          (first | refine ifyes e0 ?_ | rw [if_pos e0])
          refine st_cons' ?_
          intro K
          refine sx_push rfl rfl (by simp) (ex_str ⟨[], _, H, rfl, hsz, ?_⟩)
          refine st_nil (st_nil (st_nil ⟨by omega, Has.sub ⟨rfl, rfl, trivial⟩, ?_⟩))
          rw [htk, none, if_pos h0]; rfl
        · have e0 : ¬ ((i : Int) == 0) = true := by simpa using h0
          (first | refine ifnot e0 ?_ | rw [if_neg e0])
          refine st_cons' ?_
          intro K
          refine sx_push rfl rfl (by simp) (ex_str ⟨[], _, H, rfl, hsz, ?_⟩)
          refine st_nil (st_nil (st_nil ⟨by omega, Has.sub ⟨rfl, rfl, trivial⟩, ?_⟩))
          rw [htk, none, if_neg h0]; rfl
    · subst hi
      rw [List.take_of_length_le (by omega)]
      refine st_nil (st_less hs (st_cons' ?_))
      intro K
      refine sx_return (ex_drop ?_)
      refine ex_meth F.plainAttrs_str F.slot_str_join F.type_str_join ?_
      refine ex_str ⟨isT_str, el_cons (ex_local rfl rfl (el_nil ⟨isT_str, op_join rfl seq_head ?_ ⟨[], q, _, H, rfl, ?_⟩⟩))⟩
      · rw [sum_ones, hlen]; simp [hlen, show (Str.ofString "").length = 0 from by decide +kernel]
      · rw [join_nil]; exact p
  · obtain ⟨a, rfl⟩ := one_arg h; rfl
end
end Mine
namespace Mine
open PySem PySem.Calls PyProof.Rows PySem.Spec PySem.SeqAt

theorem signs_sx (l : List Nat) : signs (sx l) = l.map fun c => .str (sx [c]) := by simp [signs, sx]
theorem count_sx (l : List Nat) (c : Nat) : Txt.count (sx l) (sx [c]) = (l.count c : Nat) := by
  rw [show sx [c] = ⟨#[c]⟩ from rfl, count_cnt]
  show cnt c l = _
  induction l with
  | nil => rfl
  | cons n r ih =>
    rw [cnt_cons, ih, List.count_cons]
    by_cases h : n = c <;> simp [h]; omega

noncomputable abbrev Row3 := Nat × Nat × Nat
noncomputable def rowD (r : Row3) : PyData := .tuple [.int r.1, .int r.2.1, .str (sx [r.2.2])]
noncomputable abbrev rowA (r : Row3) : AV := .tup [.int r.1, .int r.2.1, .str (sx [r.2.2])]
theorem rowD_inj {r r' : Row3} (h : rowD r = rowD r') : r = r' := by
  obtain ⟨a, b, c⟩ := r
  obtain ⟨a', b', c'⟩ := r'
  simp [rowD, sx] at h
  obtain ⟨h1, h2, h3⟩ := h
  rw [Int.ofNat_inj.mp h1, Int.ofNat_inj.mp h2, h3]
theorem ofDs_rows : ∀ l : List Row3, ofDs (l.map rowD) = l.map rowA
  | [] => rfl
  | r :: l => by simp only [List.map_cons, ofDs, ofDs_rows l]; rfl
theorem rows_in (r : Row3) (l : List Row3) : decide (countIn (rowD r) (l.map rowD) ≠ 0) = decide (r ∈ l) := by
  have pos : ∀ l : List Row3, 0 ≤ countIn (rowD r) (l.map rowD) := fun l => by
    induction l with
    | nil => exact Int.le_refl _
    | cons q l ih => simp only [List.map_cons, countIn]; split <;> omega
  refine decide_eq_decide.mpr ?_
  induction l with
  | nil => simp [countIn]
  | cons q l ih =>
    have hp := pos l
    simp only [List.map_cons, countIn, List.mem_cons]
    by_cases hq : r = q
    · subst hq
      simp only [same_self, if_true, true_or, iff_true]
      omega
    · have : same (rowD q) (rowD r) = false := by
        cases h : same (rowD q) (rowD r) with
        | false => rfl
        | true => exact absurd (rowD_inj (eq_of_same _ _ h)).symm hq
      simp only [this, hq, false_or, ← ih]
      simp
theorem row_nice (r : Row3) (h : r.2.2 < 128) : nice (rowD r) = true := by
  simp [rowD, nice, nices, PyData.strOk, sx]; omega
theorem rows_nice : ∀ l : List Row3, (∀ r ∈ l, r.2.2 < 128) → nices (l.map rowD) = true
  | [], _ => rfl
  | r :: l, h => by simp only [List.map_cons, nices, row_nice r (h r (.head _)), rows_nice l fun q hq => h q (.tail _ hq), Bool.and_self]
theorem row_depth (r : Row3) : (rowD r).depth = 1 := by simp [rowD, PyData.depth, PyData.depthAll]
theorem rows_depth : ∀ l : List Row3, (PyData.list (l.map rowD)).depth ≤ 2 := by
  intro l
  induction l with
  | nil => simp [PyData.depth, PyData.depthAll]
  | cons r l ih => simp [PyData.depth, PyData.depthAll, row_depth] at ih ⊢; omega

noncomputable def cstep (one two : List Nat) (told : List Row3) (c : Nat) : List Row3 := if one.count c ≠ two.count c ∧ (one.count c, two.count c, c) ∉ told then told ++ [(one.count c, two.count c, c)] else told
noncomputable def counted (one two : List Nat) : List Row3 := (one ++ two).foldl (cstep one two) []
theorem cfold_mem (one two : List Nat) : ∀ (l : List Nat) (t : List Row3), (∀ r ∈ t, r.2.2 < 128) → (∀ c ∈ l, c < 128) → ∀ r ∈ l.foldl (cstep one two) t, r.2.2 < 128
  | [], t, ht, _ => ht
  | c :: l, t, ht, hl => cfold_mem one two l _ (fun r hr => by
      unfold cstep at hr
      split at hr
      · rcases List.mem_append.mp hr with h | h
        · exact ht r h
        · simp at h; subst h; exact hl c (.head _)
      · exact ht r hr) fun d hd => hl d (.tail _ hd)
theorem cfold_len (one two : List Nat) : ∀ (l : List Nat) (t : List Row3), (l.foldl (cstep one two) t).length ≤ t.length + l.length
  | [], t => Nat.le_refl _
  | c :: l, t => Nat.le_trans (cfold_len one two l _) (by
      unfold cstep
      split <;> simp <;> omega)

section
variable {w : World} {B : GB} {A : Around} {H : HP} {gl : Str → Option Value} {D : Ad} {P : AV → HP → Prop}
theorem c_counted (W : Wo w B.heap gl D) (R : Rm A 2) {one two : List Nat} (h1 : one.length ≤ 10) (h2 : two.length ≤ 10) (hb1 : ∀ c ∈ one, c < 128) (hb2 : ∀ c ∈ two, c < 128) (p : P (.lst ((counted one two).map rowA)) H) :
    CF PG w B A H [.str (sx one), .str (sx two)] D.counted P := by
  refine cf_fn (ns := ["one", "two"]) W W.counted.2 R (fun name qual doc pm an cdv ct L hL => ?_) (fun _ _ _ _ _ _ _ vs h => ?_) (by decide)
  · intro env A' B' W R'
    have hb : ∀ c ∈ one ++ two, c < 128 := fun c hc => (List.mem_append.mp hc).elim (hb1 c) (hb2 c)
    have hl : (one ++ two).length ≤ 20 := by rw [List.length_append]; omega
    refine st_cons' ?_
    intro K
    refine sx_assign (ex_listT (el_nil ⟨by decide, fun q => as_local rfl ?_⟩))
    refine st_cons' ?_
    intro K
    refine sx_for (n := (one ++ two).length) ?_
    refine itx_value (ex_binop (ex_local rfl rfl (ex_local rfl rfl (op_adds ?_ ?_))))
    · rw [sx_length, sx_length]; omega
    rw [sx_append]
    refine itr_str R'.hh ?_
    let Inv : Nat → Loc → HP → Prop := fun i l' H' => i ≤ (one ++ two).length ∧ Sub [("one", .str (sx one)), ("two", .str (sx two)), ("told", .list q)] l' ∧ H' = (q, (((one ++ two).take i).foldl (cstep one two) []).map rowA) :: H
    refine ⟨Inv, ⟨Nat.zero_le _, Sub.refl _, rfl⟩, ?_⟩
    rintro i l' H' ⟨hi, hs, rfl⟩
    refine ⟨_, rfl, ?_, hi, fun x hx => ?_, fun hi => ?_⟩
    · rw [signs_sx, List.length_map]
    · rw [signs_sx, List.getElem?_map] at hx
      obtain ⟨c, hc, rfl⟩ := Option.map_eq_some_iff.mp hx
      have hi' : i < (one ++ two).length := (List.getElem?_eq_some_iff.mp hc).1
      have htk : ((one ++ two).take (i + 1)).foldl (cstep one two) [] = cstep one two (((one ++ two).take i).foldl (cstep one two) []) c := by
        rw [take_succ_of hc, List.foldl_append]; rfl
      have hc' : c < 128 := hb c (List.mem_of_getElem? hc)
      have hm := cfold_mem one two ((one ++ two).take i) [] (fun _ h => nomatch h) fun d hd => hb d (List.mem_of_mem_take hd)
      have hlen := cfold_len one two ((one ++ two).take i) []
      rw [List.length_take, List.length_nil] at hlen
      generalize ((one ++ two).take i).foldl (cstep one two) [] = told at *
      refine as_less hs (as_name (as_local rfl ?_))
      refine st_cons' ?_
      intro K
      refine sx_assign ?_
      refine ex_tuple (el_cons ?_)
      refine ex_meth F.plainAttrs_str F.slot_str_count (by first | exact F.type_str_count | decide +kernel) ?_
      refine ex_local rfl rfl ⟨isT_str, el_cons (ex_local rfl rfl (el_nil ⟨isT_str, op_countS ?_⟩))⟩
      rw [count_sx]
      refine el_cons ?_
      refine ex_meth F.plainAttrs_str F.slot_str_count (by first | exact F.type_str_count | decide +kernel) ?_
      refine ex_local rfl rfl ⟨isT_str, el_cons (ex_local rfl rfl (el_nil ⟨isT_str, op_countS ?_⟩))⟩
      rw [count_sx]
      refine el_cons (ex_local rfl rfl (el_nil ⟨Nat.le_of_ble_eq_true rfl, as_local rfl ?_⟩))
      refine st_cons' ?_
      intro K
      refine sx_if (tx_and2 (tx_cmp1 ?_))
      refine ex_item item_tuple ?_
      refine ex_local rfl rfl (ex_int ⟨isT_tup, op_itemT (by decide) (by decide) rfl ?_⟩)
      refine ex_item item_tuple ?_
      refine ex_local rfl rfl (ex_int ⟨isT_tup, op_itemT (by decide) (by decide) rfl (op_ne ⟨_, rfl, ?_⟩)⟩)
      have stay (h : ¬ (one.count c ≠ two.count c ∧ (one.count c, two.count c, c) ∉ told)) : cstep one two told c = told := if_neg h
      have go (h : one.count c ≠ two.count c ∧ (one.count c, two.count c, c) ∉ told) : cstep one two told c = told ++ [(one.count c, two.count c, c)] := if_pos h
      by_cases hne : one.count c = two.count c
      · refine ifnot (by simp [hne]) (ifnot (by simp [hne]) ?_)
        refine st_nil (st_nil ⟨hi', Has.sub ⟨rfl, rfl, rfl, trivial⟩, ?_⟩)
        rw [htk, stay fun q => q.1 hne]
      · (first | refine ifyes (by simp; omega) ?_ | rw [if_pos (by simp; omega)])
        refine tx_cmp1 (ex_local rfl rfl (ex_local rfl rfl (op_notinD (d := rowD (one.count c, two.count c, c)) (xs := told.map rowD) rfl ?_ rfl (row_nice _ hc') (rows_nice _ hm) ?_ ?_ ?_ ⟨_, rfl, ?_⟩)))
        · rw [ofDs_rows]; exact seq_head
        · rw [row_depth]; decide
        · exact Nat.le_trans (rows_depth _) (by decide)
        · have := R'.units; omega
        rw [rows_in]
        by_cases hin : (one.count c, two.count c, c) ∈ told
        · (first | refine ifnot (by simp [hin]) ?_ | rw [if_neg (by simp [hin])])
          refine st_nil (st_nil ⟨hi', Has.sub ⟨rfl, rfl, rfl, trivial⟩, ?_⟩)
          rw [htk, stay fun q => q.2 hin]
        · (first | refine ifyes (by simp [hin]) ?_ | rw [if_pos (by simp [hin])])
          refine st_cons' ?_
          intro K
          refine sx_push rfl rfl (by simp) (ex_local rfl rfl ⟨[], _, H, rfl, ?_, ?_⟩)
          · rw [List.length_map]; omega
          refine st_nil (st_nil ⟨hi', Has.sub ⟨rfl, rfl, rfl, trivial⟩, ?_⟩)
          rw [htk, go ⟨hne, hin⟩, List.map_append]; rfl
    · subst hi
      rw [List.take_length]
      exact st_nil (st_less hs (st_cons (sx_return (ex_forget (ex_local rfl rfl ⟨q, _, [], H, rfl, rfl, p⟩)))))
  · obtain ⟨a, b, rfl⟩ := two_args h; rfl
end
end Mine
namespace Mine
open PySem PySem.Calls PyProof.Rows PySem.Spec PySem.SeqAt

section
variable {prog : Program} {w : World} {B : GB} {A : Around} {H : HP} {P : AV → HP → Prop}
theorem op_neg {i : Int} (p : P (.int (-i)) H) : OP prog w B A H [.int i] (un (unaryOp .USub)) P := .mk fun s E vs hr r => by
  obtain ⟨v, rfl, r1⟩ := r.one
  cases r1; exact PyProof.Rows.neg_int (Post.tok p (VR.int ..) hr)
end
theorem take_range {α : Type} (ys : List α) : ∀ m : Nat, (List.range m).filterMap (fun i => ys[i]?) = ys.take m
  | 0 => by simp
  | m + 1 => by
    rw [List.range_succ, List.filterMap_append, take_range ys m, List.take_add_one]
    congr 1
theorem pick_run (xs : List AV) (a b : Nat) : (sliceRange (a : Int) (b : Int) 1).filterMap (xs[·]?) = (xs.drop a).take (b - a) := by
  unfold sliceRange
  simp only [show (1 : Int) > 0 by decide, if_true]
  have e : (if (a : Int) < (b : Int) then ((b : Int) - (a : Int) + 1 - 1) / 1 else 0).toNat = b - a := by split <;> omega
  rw [e, List.filterMap_map, ← take_range]
  congr 1
  funext i
  show xs[((a : Int) + 1 * (i : Int)).toNat]? = _
  rw [List.getElem?_drop, show ((a : Int) + 1 * (i : Int)).toNat = a + i by omega]
theorem pick_from (xs : List AV) (k : Nat) (hk : k ≤ xs.length) : pick xs (some (k : Int)) none none = xs.drop k := by
  unfold pick
  have e : sliceBounds (some (k : Int)) none none xs.length = ((k : Int), (xs.length : Int), 1) := by
    unfold sliceBounds
    simp [show ¬ ((k : Int) < 0) by omega]
    omega
  rw [e]
  simp only [pick_run]
  rw [List.take_of_length_le (by rw [List.length_drop]; omega)]
theorem pick_to (xs : List AV) (k : Nat) (hk : k ≤ xs.length) : pick xs none (some (k : Int)) none = xs.take k := by
  unfold pick
  have e : sliceBounds none (some (k : Int)) none xs.length = (((0 : Nat) : Int), (k : Int), 1) := by
    unfold sliceBounds
    simp [show ¬ ((k : Int) < 0) by omega]
    omega
  rw [e]
  simp only [pick_run]
  simp

noncomputable def more1 (one two : List Str) : List Str := (((List.range one.length).map fun i => one.length - 1 - i).filter fun k => decide (two.count (one.getD k ⟨#[]⟩) < (one.drop k).count (one.getD k ⟨#[]⟩))).map fun k => one.getD k ⟨#[]⟩
noncomputable def more2 (one two : List Str) : List Str := ((List.range two.length).filter fun k => decide (one.count (two.getD k ⟨#[]⟩) < (two.take (k + 1)).count (two.getD k ⟨#[]⟩))).map fun k => two.getD k ⟨#[]⟩
theorem down_nums (n : Nat) : nums ((n : Int) - 1) (-1) n = ((List.range n).map fun i => n - 1 - i).map fun k => .int (k : Nat) := by
  unfold nums
  rw [List.map_map]
  refine List.map_congr_left fun i hi => ?_
  have := List.mem_range.mp hi
  show AV.int _ = AV.int _
  congr 1
  show (n : Int) - 1 + (i : Int) * -1 = ((n - 1 - i : Nat) : Int)
  omega
theorem fmap_ints {α : Type} (d : α) (p : Nat → Bool) (f : Nat → α) (l : List Nat) : ((l.map fun k => AV.int (k : Nat)).filter (onInt false p)).map (onInt d f) = (l.filter p).map f := by
  rw [List.filter_map, List.map_map]
  rfl
theorem up_nums (n : Nat) : nums 0 1 n = (List.range n).map fun k => .int (k : Nat) := by
  unfold nums
  simp
theorem txts_get {l : List Str} {k : Nat} (h : k < l.length) : (txts l)[k]? = some (.str (l.getD k ⟨#[]⟩)) := by
  simp [txts, h]

section
variable {w : World} {B : GB} {A : Around} {H : HP} {gl : Str → Option Value} {D : Ad} {P : AV → HP → Prop}
theorem c_more (W : Wo w B.heap gl D) (R : Rm A 2) {one two : List Str} (h1 : one.length ≤ 100) (h2 : two.length ≤ 100) (p : P (.tup [.lst (txts (more1 one two)), .lst (txts (more2 one two))]) H) :
    CF PG w B A H [.lst (txts one), .lst (txts two)] D.more P := by
  refine cf_fn (ns := ["one", "two"]) W W.more.2 R (fun name qual doc pm an cdv ct L hL => ?_) (fun _ _ _ _ _ _ _ vs h => ?_) (by decide)
  · intro env A' B' W R'
    have l1 : (txts one).length = one.length := List.length_map ..
    have l2 : (txts two).length = two.length := List.length_map ..
    refine st_cons' ?_
    intro K
    refine sx_assignComp (l₀ := [("one", .lst (txts one)), ("two", .lst (txts two))]) (p := onInt false fun k => decide (two.count (one.getD k ⟨#[]⟩) < (one.drop k).count (one.getD k ⟨#[]⟩))) (f := onInt .none fun k => .str (one.getD k ⟨#[]⟩)) (soft := false) rfl (by decide) rfl (by decide) ⟨⟨rfl, rfl, rfl, rfl⟩, ⟨rfl, rfl, rfl, rfl⟩, trivial⟩ rfl ?_
    refine itx_callTy W W.range rfl ?_
    refine el_cons (ex_binop ?_)
    refine ex_callBi (id := "len") W W.len rfl ?_
    refine el_cons (ex_cell rfl rfl (el_nil (op_lenL rfl rfl (by omega) (ex_int (op_sub ?_)))))
    refine el_cons (ex_unary (ex_int (op_neg (el_cons (ex_unary (ex_int (op_neg (el_nil ?_))))))))
    refine opi_rangeDown R'.hh (by omega) ?_
    rw [l1]
    refine ⟨_, fun _ _ => rfl, ?_, fun h => (nomatch h), fun x hx C D acc hacc => ?_, ?_⟩
    · simp [nums]; omega
    · rw [down_nums] at hx
      obtain ⟨k, hk, rfl⟩ := List.mem_map.mp hx
      obtain ⟨i, hi, rfl⟩ := List.mem_map.mp hk
      have hi := List.mem_range.mp hi
      have hk : one.length - 1 - i < one.length := by omega
      generalize one.length - 1 - i = k at *
      have hg := txts_get hk
      refine as_name (as_local rfl ⟨rfl, Sub.put (Sub.refl _) rfl, ts_one (tx_cmp1 ?_)⟩)
      refine ex_meth F.plainAttrs_list F.slot_list_count F.type_list_count ?_
      refine ex_slice (ex_cell rfl rfl ⟨rfl, eo_some (ex_local rfl rfl ⟨_, rfl, eo_none (eo_none ⟨by simp, _, rfl, by omega, ?_⟩)⟩)⟩)
      rw [pick_from _ _ (by omega), show (txts one).drop k = txts (one.drop k) from List.map_drop.symm]
      refine ⟨isT_lst, el_cons ?_⟩
      refine ex_item item_list ?_
      refine ex_cell rfl rfl (ex_local rfl rfl ⟨isT_lst, op_itemL rfl rfl (by omega) (by omega) hg ?_⟩)
      refine el_nil ⟨isT_lst, op_countL rfl rfl ?_⟩
      refine ex_meth F.plainAttrs_list F.slot_list_count F.type_list_count ?_
      refine ex_cell rfl rfl ⟨isT_lst, el_cons ?_⟩
      refine ex_item item_list ?_
      refine ex_cell rfl rfl (ex_local rfl rfl ⟨isT_lst, op_itemL rfl rfl (by omega) (by omega) hg ?_⟩)
      refine el_nil ⟨isT_lst, op_countL rfl rfl (op_gt ⟨_, rfl, rfl, ?_, fun _ => ?_⟩)⟩
      · simp [onInt]
      · refine ex_item item_list ?_
        exact ex_cell rfl rfl (ex_local rfl rfl ⟨isT_lst, op_itemL rfl rfl (by omega) (by omega) hg ⟨rfl, rfl⟩⟩)
    · rw [down_nums, fmap_ints]
      refine st_cons' ?_
      intro K
      refine sx_return (ex_tuple (el_cons (ex_local rfl rfl (el_cons ?_))))
      refine ex_comp (l₀ := [("one", .lst (txts one)), ("two", .lst (txts two))]) (p := onInt false fun k => decide (one.count (two.getD k ⟨#[]⟩) < (two.take (k + 1)).count (two.getD k ⟨#[]⟩))) (f := onInt .none fun k => .str (two.getD k ⟨#[]⟩)) (soft := false) rfl (by decide) rfl (by decide) ⟨⟨rfl, rfl, rfl, rfl⟩, ⟨rfl, rfl, rfl, rfl⟩, trivial⟩ ?_
      refine itx_callTy W W.range rfl ?_
      refine el_cons ?_
      refine ex_callBi (id := "len") W W.len rfl ?_
      refine el_cons (ex_cell rfl rfl (el_nil (op_lenL rfl rfl (by omega) (el_nil ?_))))
      refine opi_range1 R'.hh (by omega) (by omega) ?_
      rw [show Int.toNat ((txts two).length : Int) = two.length by omega]
      refine ⟨_, fun _ _ => rfl, ?_, fun h => (nomatch h), fun x hx C D acc hacc => ?_, ?_⟩
      · simp [nums]; omega
      · rw [up_nums] at hx
        obtain ⟨k, hk, rfl⟩ := List.mem_map.mp hx
        have hk := List.mem_range.mp hk
        have hg := txts_get hk
        refine as_name (as_local rfl ⟨rfl, Sub.put (Sub.refl _) rfl, ts_one (tx_cmp1 ?_)⟩)
        refine ex_meth F.plainAttrs_list F.slot_list_count F.type_list_count ?_
        refine ex_slice (ex_cell rfl rfl ⟨rfl, eo_none (eo_some (ex_binop (ex_local rfl rfl (ex_int (op_add ⟨_, rfl, eo_none ⟨by simp, _, rfl, by omega, ?_⟩⟩)))))⟩)
        rw [show ((k : Int) + 1) = ((k + 1 : Nat) : Int) from rfl, pick_to _ _ (by omega), show (txts two).take (k + 1) = txts (two.take (k + 1)) from List.map_take.symm]
        refine ⟨isT_lst, el_cons ?_⟩
        refine ex_item item_list ?_
        refine ex_cell rfl rfl (ex_local rfl rfl ⟨isT_lst, op_itemL rfl rfl (by omega) (by omega) hg ?_⟩)
        refine el_nil ⟨isT_lst, op_countL rfl rfl ?_⟩
        refine ex_meth F.plainAttrs_list F.slot_list_count F.type_list_count ?_
        refine ex_cell rfl rfl ⟨isT_lst, el_cons ?_⟩
        refine ex_item item_list ?_
        refine ex_cell rfl rfl (ex_local rfl rfl ⟨isT_lst, op_itemL rfl rfl (by omega) (by omega) hg ?_⟩)
        refine el_nil ⟨isT_lst, op_countL rfl rfl (op_gt ⟨_, rfl, rfl, ?_, fun _ => ?_⟩)⟩
        · simp [onInt]
        · refine ex_item item_list ?_
          exact ex_cell rfl rfl (ex_local rfl rfl ⟨isT_lst, op_itemL rfl rfl (by omega) (by omega) hg ⟨rfl, rfl⟩⟩)
      · rw [up_nums, fmap_ints]
        refine el_nil ⟨Nat.le_of_ble_eq_true rfl, ?_⟩
        have e : ∀ (l : List Nat) (m : List Str), (l.map fun k => AV.str (m.getD k ⟨#[]⟩)) = txts (l.map fun k => m.getD k ⟨#[]⟩) := fun l m => (List.map_map ..).symm
        rw [e]
        show P (.tup [.lst _, _]) H
        rw [e]
        exact p
  · obtain ⟨a, b, rfl⟩ := two_args h; rfl
end
end Mine
namespace Mine
open PySem PySem.Calls PyProof.Rows PySem.Spec PySem.SeqAt

section
variable {prog : Program} {w : World} {B : GB} {A : Around} {env : Env} {l : Loc} {H : HP}
theorem st_nodup {ss : List Stmt} {P : AF → Loc → HP → Prop} (h : (keys H).Nodup → ST prog w B A env ss l H P) : ST prog w B A env ss l H P := .mk fun s E hr F => (h hr.nodup).run s E hr F
theorem tx_nodup {e : Expr} {P : Bool → HP → Prop} (h : (keys H).Nodup → TX prog w B A env l e H P) : TX prog w B A env l e H P := .mk fun s E hr F => (h hr.nodup).run s E hr F
end
theorem txts_append (a b : List Str) : txts (a ++ b) = txts a ++ txts b := List.map_append
theorem sub_ve : isSubtype (.type "ValueError") (.type "BaseException") = pure true := by rw [isSubtype_type]; kernel_rfl
theorem sub_vv : isSubtype (.type "ValueError") (.type "ValueError") = pure true := by rw [isSubtype_type]; kernel_rfl
theorem sub_vt : isSubtype (.type ((Manifest.find? "ValueError").elim "type" fun x => x.metatype)) (.type "tuple") = pure false := by
  rw [show (Manifest.find? "ValueError").elim "type" (fun x => x.metatype) = "type" from by decide +kernel, isSubtype_type]; kernel_rfl

noncomputable def uldS : List Str → List Str → List Str × List Str
  | [], as => ([], as)
  | x :: r, as => if x ∈ as then uldS r (as.erase x) else (x :: (uldS r as).1, (uldS r as).2)

section
variable {w : World} {B : GB} {A : Around} {H : HP} {gl : Str → Option Value} {D : Ad} {P : AV → HP → Prop}
theorem c_uld (W : Wo w B.heap gl D) (R : Rm A 2) (Fa : FrA A B) {e a : Addr} {es as : List Str} (h1 : es.length ≤ 100) (h2 : as.length ≤ 100) (p : P (.tup [.lst (txts (uldS es.reverse as).1), .lst (txts (uldS es.reverse as).2)]) H) :
    CF PG w B A ((a, txts as) :: (e, txts es) :: H) [.list e, .list a] D.uld P := by
  refine cf_fn (ns := ["expected", "actual"]) W W.uld.2 R (fun name qual doc pm an cdv ct L hL => ?_) (fun _ _ _ _ _ _ _ vs h => ?_) (by decide)
  · intro env A' B' W R'
    have I := InFr.deeper (env := env) Fa (show ScopeKind.function ≠ ScopeKind.module by decide) rfl hL
    refine st_cons' ?_
    intro K
    refine sx_expr (ex_str ?_)
    refine st_cons' ?_
    intro K
    refine sx_assign (ex_listT (el_nil ⟨by decide, fun q => as_local rfl ?_⟩))
    let Inv : Nat → Loc → HP → Prop := fun k l' H' => ∃ es' as' m, k = es'.length ∧ Sub [("expected", .list e), ("actual", .list a), ("missing", .list q)] l' ∧ H' = (q, txts m) :: (a, txts as') :: (e, txts es') :: H ∧ es'.length ≤ 100 ∧ as'.length ≤ 100 ∧ m.length + es'.length ≤ 100 ∧ m ++ (uldS es'.reverse as').1 = (uldS es.reverse as).1 ∧ (uldS es'.reverse as').2 = (uldS es.reverse as).2
    refine st_cons' ?_
    intro K
    refine sx_while Inv es.length ⟨es, as, [], rfl, Sub.refl _, rfl, h1, h2, by simpa using h1, rfl, rfl⟩ ?_
    rintro k l' H' ⟨es', as', m, rfl, hs, rfl, h3, h4, h5, h6, h7⟩
    refine tx_nodup fun nd => ?_
    have ne : e ≠ q ∧ e ≠ a ∧ a ≠ q := by
      simp only [keys, List.map_cons, List.nodup_cons, List.mem_cons, not_or] at nd
      exact ⟨Ne.symm nd.1.2.1, Ne.symm nd.2.1.1, Ne.symm nd.1.1⟩
    have le : seqOf (.list e) ((q, txts m) :: (a, txts as') :: (e, txts es') :: H) = some (txts es') := by simp [seqOf, List.lookup_cons, beq_eq_false_iff_ne.mpr ne.1, beq_eq_false_iff_ne.mpr ne.2.1]
    refine tx_value (ex_local rfl (hs _ _ rfl) (opb_list rfl le (by simp; omega) ?_))
    rcases List.eq_nil_or_concat es' with rfl | ⟨ys, x, rfl⟩
    · (first | refine ifnot (by simp) ?_ | rw [if_neg (by simp)])
      rw [List.reverse_nil] at h6 h7
      refine st_less hs (st_cons' ?_)
      intro K
      refine sx_return (ex_drop (ex_tuple (el_cons (ex_forget (ex_local rfl rfl ⟨q, _, [], _, rfl, rfl, el_cons (ex_forget (ex_local rfl rfl ⟨a, _, [], _, rfl, rfl, el_nil ⟨Nat.le_of_ble_eq_true rfl, [], e, _, H, rfl, ?_⟩⟩))⟩)))))
      have e1 : m = (uldS es.reverse as).1 := by rw [← h6]; simp [uldS]
      have e2 : as' = (uldS es.reverse as).2 := by rw [← h7]; simp [uldS]
      rw [e1, e2]
      exact p
    · (first | refine ifyes (by simp) ?_ | rw [if_pos (by simp)])
      rw [List.concat_eq_append] at *
      rw [List.length_append, List.length_singleton] at h3 h5
      rw [List.reverse_append, List.reverse_singleton, List.singleton_append] at h6 h7
      refine st_less hs (st_cons' ?_)
      intro K
      refine sx_assign ?_
      refine ex_meth0 F.plainAttrs_list F.slot_list_pop (by first | exact F.type_list_pop | decide +kernel) ?_
      rw [txts_append]
      refine ex_local rfl rfl ⟨isT_list (by simp [keys]), op_pop (H₁ := [(q, txts m), (a, txts as')]) (by simp; omega) (as_local rfl ?_)⟩
      refine st_cons' ?_
      intro K
      refine sx_try (X := "ValueError") (T := "ValueError") (cl := true) (PE := fun l' H' => l' = put [("expected", .list e), ("actual", .list a), ("missing", .list q)] "item" (.str x) ∧ H' = (q, txts m) :: (a, txts as') :: (e, txts ys) :: H ∧ x ∉ as') I sub_ve sub_vt sub_vv (fun A' l' H' => ex_builtin W.base rfl W.valerr rfl ⟨rfl, rfl⟩) ?_ ?_
      · by_cases hx : x ∈ as'
        · refine sr_of (st_cons' ?_)
          intro K
          refine sx_expr ?_
          refine ex_meth F.plainAttrs_list F.slot_list_remove (by first | exact F.type_list_remove | decide +kernel) ?_
          refine ex_local rfl rfl ⟨isT_list (by simp [keys]), el_cons (ex_local rfl rfl (el_nil ⟨isT_list (by simp [keys]), op_remove (H₁ := [(q, txts m)]) hx (by omega) ?_⟩))⟩
          refine st_nil (st_nil ⟨ys.length, by simp, ys, as'.erase x, m, rfl, Has.sub ⟨rfl, rfl, rfl, trivial⟩, rfl, by omega, Nat.le_trans (List.erase_sublist.length_le) h4, by omega, ?_, ?_⟩)
          · simpa [uldS, hx] using h6
          · simpa [uldS, hx] using h7
        · refine sr_one (sxr_expr (PE' := fun H' => H' = (q, txts m) :: (a, txts as') :: (e, txts ys) :: H) ?_ fun H' h => ⟨rfl, h, hx⟩)
          refine exr_meth lasts_true F.plainAttrs_list F.slot_list_remove (by first | exact F.type_list_remove | decide +kernel) ?_
          exact ex_local rfl rfl ⟨isT_list (by simp [keys]), el_cons (ex_local rfl rfl (el_nil ⟨isT_list (by simp [keys]), opr_remove R'.hh (by simp) hx rfl⟩))⟩
      · rintro ex l'' H'' ⟨rfl, rfl, hx⟩
        refine st_cons' ?_
        intro K
        refine sx_push rfl rfl (by simp) (ex_local rfl rfl ⟨[], _, _, rfl, by simp; omega, ?_⟩)
        refine st_nil (st_nil ⟨ys.length, by simp, ys, as', m ++ [x], rfl, Has.sub ⟨rfl, rfl, rfl, trivial⟩, by rw [txts_append]; rfl, by omega, h4, by simp; omega, ?_, ?_⟩)
        · simpa [uldS, hx] using h6
        · simpa [uldS, hx] using h7
  · obtain ⟨a, b, rfl⟩ := two_args h; rfl
end
end Mine
namespace Mine
open PySem PySem.Calls PyProof.Rows PySem.Spec PySem.SeqAt

section
variable {prog : Program} {w : World} {B : GB} {A : Around} {env : Env} {l : Loc} {H : HP} {P : AF → Loc → HP → Prop}
theorem sx_tryFin {body fs : List Stmt} {f₀ : Stmt} {pos : Pos} (h : ST prog w B A env body l H fun f l₁ H₁ => f = .next ∧ ST prog w B A env (f₀ :: fs) l₁ H₁ fun g l₂ H₂ => g = .next ∧ P .next l₂ H₂) :
    SX prog w B A env (.Try body [] [] (f₀ :: fs) pos) l H P := .mk fun s E hr F => by
  refine wpAny_Try_finally (useS (h.run s _ hr F) fun af f l₁ H₁ h₁ tk₁ p r hr₁ F₁ t₁ => ?_)
  obtain ⟨rfl, p⟩ := p
  cases f <;> first | exact r.elim | skip
  refine wpAny_execs_nil (useS (p.run { s with heap := h₁, toks := tk₁ } _ hr₁ F₁) fun ag g l₂ H₂ h₂ tk₂ p₂ r₂ hr₂ F₂ t₂ => ?_)
  obtain ⟨rfl, p₂⟩ := p₂
  cases g <;> first | exact r₂.elim | exact ⟨.next, l₂, H₂, h₂, tk₂, rfl, p₂, trivial, hr₂, F₂, t₁.transW F₁ t₂⟩
theorem while_dup {xs i e : Str} {p1 p2 p3 p4 p5 p6 p7 p8 p9 : Pos} {c : Nat} {E : List Str} {x z : Str} {n : Nat} (kx : env.kindOf xs = some .local) (ki : env.kindOf i = some .local) (ke : env.kindOf e = some .local)
    (hx : lk l xs = some (.lst (txts E))) (hi : lk l i = some (.int n)) (he : lk l e = some (.str x)) (nx : xs ≠ i) (ne : e ≠ i) (h0 : E[n]? = some x) (h1 : E[n + 1]? = some z) (hz : z ≠ x) (hn : n ≤ 1000)
    (dx : (xs == ("__debug__" : Str)) = false) (di : (i == ("__debug__" : Str)) = false) (de : (e == ("__debug__" : Str)) = false) (p : P .next (put l i (.int ((n : Int) + 1))) H) :
    SX prog w B A env (.While (.Compare (.Subscript (.Name xs p1) (.Name i p2) p3) [.Eq] [.Name e p4] p5) [.AugAssign (.Name i p6) .Add (.Constant (.int 1) c p7) p8] [] p9) l H P := by
  let Inv : Nat → Loc → HP → Prop := fun k l' H' => H' = H ∧ ((k = 1 ∧ l' = l) ∨ (k = 0 ∧ l' = put l i (.int ((n : Int) + 1))))
  refine sx_while Inv 1 ⟨rfl, .inl ⟨rfl, rfl⟩⟩ ?_
  rintro k l' H' ⟨rfl, ⟨rfl, rfl⟩ | ⟨rfl, rfl⟩⟩
  · refine tx_cmp1 (ex_item item_list (ex_local kx hx (ex_local ki hi ⟨isT_lst, op_itemL rfl rfl (by omega) (by omega) (a := .str x) ?_ (ex_local ke he (op_eqs ⟨_, rfl, ?_⟩) de)⟩ di) dx))
    · simp [txts, h0]
    · (first | refine ifyes (beq_self_eq_true _) ?_ | rw [if_pos (beq_self_eq_true _)])
      exact st_cons (sx_aug ki hi (ex_int (op_iadd (as_local ki (st_nil ⟨0, by omega, rfl, .inr ⟨rfl, rfl⟩⟩)))))
  · have hx' : lk (put l i (.int ((n : Int) + 1))) xs = some (.lst (txts E)) := lk_some_put hx nx
    have he' : lk (put l i (.int ((n : Int) + 1))) e = some (.str x) := lk_some_put he ne
    have hi' : lk (put l i (.int ((n : Int) + 1))) i = some (.int ((n : Int) + 1)) := by rw [lk_put, if_pos rfl]
    refine tx_cmp1 (ex_item item_list (ex_local kx hx' (ex_local ki hi' ⟨isT_lst, op_itemL rfl rfl (by omega) (by omega) (a := .str z) ?_ (ex_local ke he' (op_eqs ⟨_, rfl, ?_⟩) de)⟩ di) dx))
    · rw [show ((n : Int) + 1).toNat = n + 1 by omega]; simp [txts, h1]
    · (first | refine ifnot (by simp [hz]) ?_ | rw [if_neg (by simp [hz])])
      exact p
end

theorem sub_ie : isSubtype (.type "IndexError") (.type "BaseException") = pure true := by rw [isSubtype_type]; kernel_rfl
theorem sub_ii : isSubtype (.type "IndexError") (.type "IndexError") = pure true := by rw [isSubtype_type]; kernel_rfl
theorem sub_it : isSubtype (.type ((Manifest.find? "IndexError").elim "type" fun x => x.metatype)) (.type "tuple") = pure false := by
  rw [show (Manifest.find? "IndexError").elim "type" (fun x => x.metatype) = "type" from by decide +kernel, isSubtype_type]; kernel_rfl

noncomputable abbrev ltS (a b : Str) : Prop := a.cps.toList < b.cps.toList
noncomputable def lastS : Str := sx [126]
noncomputable def dup (l : List Str) : List Str := l.flatMap fun x => [x, x]
noncomputable def ends (l : List Str) : List Str := dup l ++ [lastS]
noncomputable def Srt (l : List Str) : Prop := l.Pairwise ltS ∧ ∀ x ∈ l, ltS x lastS
noncomputable def diffS (p q : List Str) : List Str := p.filter fun x => !decide (x ∈ q)
theorem ends_cons (x : Str) (r : List Str) : ends (x :: r) = x :: x :: ends r := rfl
theorem ends_at0 (pe p : List Str) : (pe ++ ends p)[pe.length]? = some (p.headD lastS) := by
  rw [List.getElem?_append_right (Nat.le_refl _), Nat.sub_self]
  cases p <;> rfl
theorem ends_at1 (pe : List Str) (x : Str) (r : List Str) : (pe ++ ends (x :: r))[pe.length + 1]? = some x := by
  rw [List.getElem?_append_right (by omega), Nat.add_sub_cancel_left]; rfl
theorem ends_at2 (pe : List Str) (x : Str) (r : List Str) : (pe ++ ends (x :: r))[pe.length + 2]? = some (r.headD lastS) := by
  rw [List.getElem?_append_right (by omega), Nat.add_sub_cancel_left]
  cases r <;> rfl
theorem ends_len (l : List Str) : (ends l).length = 2 * l.length + 1 := by
  induction l with
  | nil => rfl
  | cons x r ih => rw [ends_cons, List.length_cons, List.length_cons, ih, List.length_cons]; omega
theorem Srt.tail {x : Str} {r : List Str} (h : Srt (x :: r)) : Srt r := ⟨(List.pairwise_cons.mp h.1).2, fun y hy => h.2 y (.tail _ hy)⟩
theorem Srt.head_lt {x : Str} {r : List Str} (h : Srt (x :: r)) : ltS x (r.headD lastS) := by
  cases r with
  | nil => exact h.2 x (.head _)
  | cons y r => exact (List.pairwise_cons.mp h.1).1 y (.head _)
theorem ltS_ne {a b : Str} (h : ltS a b) : a ≠ b := fun e => List.lt_irrefl _ (e ▸ h)
theorem Srt.not_mem {x : Str} {q : List Str} (h : Srt q) (hx : ltS x (q.headD lastS)) : x ∉ q := by
  cases q with
  | nil => simp
  | cons y q =>
    intro hm
    rcases List.mem_cons.mp hm with rfl | hm
    · exact List.lt_irrefl _ hx
    · exact List.lt_irrefl _ (List.lt_trans hx ((List.pairwise_cons.mp h.1).1 x hm))
theorem diff_skip {x : Str} {p q : List Str} (h : x ∉ q) : diffS (x :: p) q = x :: diffS p q := by simp [diffS, h]
theorem diff_pass {x : Str} {p q : List Str} (h : x ∉ q) : diffS q (x :: p) = diffS q p := by
  refine List.filter_congr fun y hy => ?_
  have : y ≠ x := fun e => h (e ▸ hy)
  simp [this]
theorem diff_both {x : Str} {p q : List Str} (hp : x ∉ p) : diffS (x :: p) (x :: q) = diffS p q := by
  have : diffS (x :: p) (x :: q) = diffS p (x :: q) := by simp [diffS]
  rw [this, diff_pass hp]
theorem str_tri {a b : Str} (h1 : ¬ ltS a b) (h2 : ¬ ltS b a) : a = b := by
  have := List.le_antisymm (as := a.cps.toList) (bs := b.cps.toList) h2 h1
  cases a; cases b; simpa using this

section
variable {w : World} {B : GB} {A : Around} {H : HP} {gl : Str → Option Value} {D : Ad} {P : AV → HP → Prop}
theorem c_sld (W : Wo w B.heap gl D) (R : Rm A 2) (Fa : FrA A B) {p q : List Str} (hp : Srt p) (hq : Srt q) (lp : p.length ≤ 20) (lq : q.length ≤ 20) (pp : P (.tup [.lst (txts (diffS p q)), .lst (txts (diffS q p))]) H) :
    CF PG w B A H [.lst (txts (ends p)), .lst (txts (ends q))] D.sld P := by
  refine cf_fn (ns := ["expected", "actual"]) W W.sld.2 R (fun name qual doc pm an cdv ct L hL => ?_) (fun _ _ _ _ _ _ _ vs h => ?_) (by decide)
  · intro env A' B' W R'
    have I := InFr.deeper (env := env) Fa (show ScopeKind.function ≠ ScopeKind.module by decide) rfl hL
    have lE := ends_len p
    have lA := ends_len q
    refine st_cons' ?_
    intro K
    refine sx_expr (ex_str ?_)
    refine st_cons' ?_
    intro K
    refine sx_assign2 (ex_int (as_name (as_local rfl (as_name (as_local rfl ?_)))))
    refine st_cons' ?_
    intro K
    refine sx_assign (ex_listT (el_nil ⟨by decide, fun mi => as_local rfl ?_⟩))
    refine st_cons' ?_
    intro K
    refine sx_assign (ex_listT (el_nil ⟨by decide, fun un => as_local rfl ?_⟩))
    let Inv : Nat → Loc → HP → Prop := fun k l' H' => ∃ p' q' pe pa m u, k = p'.length + q'.length ∧ Sub [("expected", .lst (txts (ends p))), ("actual", .lst (txts (ends q))), ("i", .int (pe.length : Nat)), ("j", .int (pa.length : Nat)), ("missing", .list mi), ("unexpected", .list un)] l' ∧ H' = (un, txts u) :: (mi, txts m) :: H ∧ ends p = pe ++ ends p' ∧ ends q = pa ++ ends q' ∧ Srt p' ∧ Srt q' ∧ m ++ diffS p' q' = diffS p q ∧ u ++ diffS q' p' = diffS q p
    refine st_cons' ?_
    intro K
    refine sx_while Inv (p.length + q.length) ⟨p, q, [], [], [], [], rfl, Sub.refl _, rfl, rfl, rfl, hp, hq, rfl, rfl⟩ ?_
    rintro k l' H' ⟨p', q', pe, pa, m, u, rfl, hs, rfl, hE, hA, sp, sq, hm, hu⟩
    refine tx_value (ex_bool (opb_bool ?_))
    (first | refine ifyes rfl ?_ | rw [if_pos rfl])
    have lm : m.length ≤ 20 := by
      have := congrArg List.length hm
      have h2 : (diffS p q).length ≤ p.length := List.length_filter_le ..
      rw [List.length_append] at this; omega
    have lu : u.length ≤ 20 := by
      have := congrArg List.length hu
      have h2 : (diffS q p).length ≤ q.length := List.length_filter_le ..
      rw [List.length_append] at this; omega
    have l1 : pe.length + (2 * p'.length + 1) = 2 * p.length + 1 := by rw [← lE, hE, List.length_append, ends_len]
    have l2 : pa.length + (2 * q'.length + 1) = 2 * q.length + 1 := by rw [← lA, hA, List.length_append, ends_len]
    have gE : (txts (ends p))[((pe.length : Nat) : Int).toNat]? = some (.str (p'.headD lastS)) := by
      rw [hE, txts, List.getElem?_map, Int.toNat_natCast, ends_at0]; rfl
    have gA : (txts (ends q))[((pa.length : Nat) : Int).toNat]? = some (.str (q'.headD lastS)) := by
      rw [hA, txts, List.getElem?_map, Int.toNat_natCast, ends_at0]; rfl
    refine st_less hs (st_cons' ?_)
    intro K
    refine sx_try (X := "IndexError") (T := "IndexError") (cl := false) (PE := fun l' H' => p' = [] ∧ q' = [] ∧ H' = (un, txts u) :: (mi, txts m) :: H ∧
      Sub [("expected", .lst (txts (ends p))), ("actual", .lst (txts (ends q))), ("i", .int ((pe.length : Nat) + 1)), ("j", .int ((pa.length : Nat) + 1)), ("missing", .list mi), ("unexpected", .list un)] l') I sub_ie sub_it sub_ii (fun A' l' H' => ex_builtin W.base rfl W.ixerr rfl ⟨rfl, rfl⟩) ?_ ?_
    · by_cases hend : p' = [] ∧ q' = []
      · obtain ⟨rfl, rfl⟩ := hend
        have ll : ¬ ltS lastS lastS := List.lt_irrefl _
        refine sr_cons lasts_true (sx_assign (ex_item item_list (ex_local rfl rfl (ex_local rfl rfl ⟨isT_lst, op_itemL rfl rfl (by omega) (by omega) gE (as_local rfl ?_)⟩))))
        refine sr_cons lasts_true (sx_assign (ex_item item_list (ex_local rfl rfl (ex_local rfl rfl ⟨isT_lst, op_itemL rfl rfl (by omega) (by omega) gA (as_local rfl ?_)⟩))))
        refine sr_one (sxr_if lasts_true (tx_cmp1 (ex_local rfl rfl (ex_local rfl rfl (op_lts ⟨_, rfl, ?_⟩)))))
        (first | refine ifnot (by simpa using ll) ?_ | rw [if_neg (by simpa using ll)])
        refine sr_one (sxr_if lasts_true (tx_cmp1 (ex_local rfl rfl (ex_local rfl rfl (op_gts ⟨_, rfl, ?_⟩)))))
        (first | refine ifnot (by simpa using ll) ?_ | rw [if_neg (by simpa using ll)])
        refine sr_cons lasts_true (sx_aug rfl rfl (ex_int (op_iadd (as_local rfl ?_))))
        refine sr_one (sxr_finally (PE₁ := fun l' H' => l' = put (put (put [("expected", .lst (txts (ends p))), ("actual", .lst (txts (ends q))), ("i", .int (pe.length : Nat)), ("j", .int (pa.length : Nat)), ("missing", .list mi), ("unexpected", .list un)] "e" (.str lastS)) "a" (.str lastS)) "i" (.int ((pe.length : Nat) + 1)) ∧ H' = (un, txts u) :: (mi, txts m) :: H) I lasts_true ?_ ?_)
        · refine sr_one (sxr_while (PE' := fun H' => H' = (un, txts u) :: (mi, txts m) :: H) I (txr_cmp1 (exr_item lasts_true item_list (ex_local rfl rfl (ex_local rfl rfl ⟨isT_lst, opr_itemOut R'.hh rfl rfl ?_ ?_ rfl⟩)))) fun H' h => ⟨rfl, h⟩)
          · rw [List.length_map, lE]; simp at l1; omega
          · omega
        · rintro ex tb l' H' ⟨rfl, rfl⟩
          refine sr_cons lasts_fly (sx_aug rfl rfl (ex_int (op_iadd (as_local rfl ?_))))
          refine sr_one (sxr_while (PE' := fun H' => H' = (un, txts u) :: (mi, txts m) :: H) I.mark (txr_cmp1 (exr_item lasts_fly item_list (ex_local rfl rfl (ex_local rfl rfl ⟨isT_lst, opr_itemHeld rfl rfl rfl ?_ ?_ rfl⟩)))) fun H' h => ⟨rfl, rfl, h, Has.sub ⟨rfl, rfl, rfl, rfl, rfl, rfl, trivial⟩⟩)
          · rw [List.length_map, lA]; simp at l2; omega
          · omega
      · refine sr_of (st_cons' ?_)
        intro K
        refine sx_assign (ex_item item_list (ex_local rfl rfl (ex_local rfl rfl ⟨isT_lst, op_itemL rfl rfl (by omega) (by omega) gE (as_local rfl ?_)⟩)))
        refine st_cons' ?_
        intro K
        refine sx_assign (ex_item item_list (ex_local rfl rfl (ex_local rfl rfl ⟨isT_lst, op_itemL rfl rfl (by omega) (by omega) gA (as_local rfl ?_)⟩)))
        refine st_cons' ?_
        intro K
        refine sx_if (tx_cmp1 (ex_local rfl rfl (ex_local rfl rfl (op_lts ⟨_, rfl, ?_⟩))))
        by_cases hlt : ltS (p'.headD lastS) (q'.headD lastS)
        · (first | refine ifyes (decide_eq_true hlt) ?_ | rw [if_pos (decide_eq_true hlt)])
          obtain _ | ⟨x, r⟩ := p'
          · exfalso
            have hlt : ltS lastS (q'.headD lastS) := hlt
            obtain _ | ⟨y, t⟩ := q'
            · exact List.lt_irrefl _ hlt
            · exact List.lt_irrefl _ (List.lt_trans hlt (sq.2 y (.head _)))
          have nm : x ∉ q' := sq.not_mem hlt
          refine st_cons' ?_
          intro K
          refine sx_push rfl rfl (by simp) (ex_local rfl rfl ⟨[(un, txts u)], _, H, rfl, by simp; omega, ?_⟩)
          refine st_cons' ?_
          intro K
          refine sx_aug rfl rfl (ex_int (op_iadd (as_local rfl ?_)))
          refine st_cons' ?_
          intro K
          refine while_dup (E := ends p) (x := x) (z := r.headD lastS) (n := pe.length + 1) rfl rfl rfl rfl rfl rfl (by decide) (by decide) ?_ ?_ (ltS_ne sp.head_lt).symm (by omega) (by decide) (by decide) (by decide) ?_
          · rw [hE, ends_at1]
          · rw [hE, ends_at2]
          refine st_nil (st_nil (st_nil ⟨r.length + q'.length, by rw [List.length_cons]; omega, r, q', pe ++ [x, x], pa, m ++ [x], u, rfl, ?_, ?_, ?_, hA, sp.tail, sq, ?_, ?_⟩))
          · refine Has.sub ⟨rfl, rfl, ?_, rfl, rfl, rfl, trivial⟩
            rw [List.length_append]; rfl
          · rw [txts_append]; rfl
          · rw [hE, ends_cons]; simp
          · rw [← hm, diff_skip nm]; simp
          · rw [← hu, diff_pass nm]
        · (first | refine ifnot (by simpa using hlt) ?_ | rw [if_neg (by simpa using hlt)])
          refine st_cons' ?_
          intro K
          refine sx_if (tx_cmp1 (ex_local rfl rfl (ex_local rfl rfl (op_gts ⟨_, rfl, ?_⟩))))
          by_cases hgt : ltS (q'.headD lastS) (p'.headD lastS)
          · (first | refine ifyes (decide_eq_true hgt) ?_ | rw [if_pos (decide_eq_true hgt)])
            obtain _ | ⟨x, r⟩ := q'
            · exfalso
              have hgt : ltS lastS (p'.headD lastS) := hgt
              obtain _ | ⟨y, t⟩ := p'
              · exact List.lt_irrefl _ hgt
              · exact List.lt_irrefl _ (List.lt_trans hgt (sp.2 y (.head _)))
            have nm : x ∉ p' := sp.not_mem hgt
            refine st_cons' ?_
            intro K
            refine sx_push rfl rfl (by simp) (ex_local rfl rfl ⟨[], _, _, rfl, by simp; omega, ?_⟩)
            refine st_cons' ?_
            intro K
            refine sx_aug rfl rfl (ex_int (op_iadd (as_local rfl ?_)))
            refine st_cons' ?_
            intro K
            refine while_dup (E := ends q) (x := x) (z := r.headD lastS) (n := pa.length + 1) rfl rfl rfl rfl rfl rfl (by decide) (by decide) ?_ ?_ (ltS_ne sq.head_lt).symm (by omega) (by decide) (by decide) (by decide) ?_
            · rw [hA, ends_at1]
            · rw [hA, ends_at2]
            refine st_nil (st_nil (st_nil (st_nil ⟨p'.length + r.length, by rw [List.length_cons]; omega, p', r, pe, pa ++ [x, x], m, u ++ [x], rfl, ?_, ?_, hE, ?_, sp, sq.tail, ?_, ?_⟩)))
            · refine Has.sub ⟨rfl, rfl, rfl, ?_, rfl, rfl, trivial⟩
              rw [List.length_append]; rfl
            · rw [txts_append]; rfl
            · rw [hA, ends_cons]; simp
            · rw [← hm, diff_pass nm]
            · rw [← hu, diff_skip nm]; simp
          · (first | refine ifnot (by simpa using hgt) ?_ | rw [if_neg (by simpa using hgt)])
            have heq := str_tri hlt hgt
            obtain ⟨x, r, y, t, rfl, rfl⟩ : ∃ x r y t, p' = x :: r ∧ q' = y :: t := by
              rcases p' with _ | ⟨x, r⟩ <;> rcases q' with _ | ⟨y, t⟩
              · exact absurd ⟨rfl, rfl⟩ hend
              · exact absurd heq.symm (ltS_ne (sq.2 y (.head _)))
              · exact absurd heq (ltS_ne (sp.2 x (.head _)))
              · exact ⟨x, r, y, t, rfl, rfl⟩
            obtain rfl : x = y := heq
            have nr : x ∉ r := sp.tail.not_mem sp.head_lt
            have nt : x ∉ t := sq.tail.not_mem sq.head_lt
            refine st_cons' ?_
            intro K
            refine sx_aug rfl rfl (ex_int (op_iadd (as_local rfl ?_)))
            refine st_cons' ?_
            intro K
            refine sx_tryFin ?_
            refine st_cons' ?_
            intro K
            refine while_dup (E := ends p) (x := x) (z := r.headD lastS) (n := pe.length + 1) rfl rfl rfl rfl rfl rfl (by decide) (by decide) ?_ ?_ (ltS_ne sp.head_lt).symm (by omega) (by decide) (by decide) (by decide) ?_
            · rw [hE, ends_at1]
            · rw [hE, ends_at2]
            refine st_nil ⟨rfl, st_cons (sx_aug rfl rfl (ex_int (op_iadd (as_local rfl ?_))))⟩
            refine st_cons' ?_
            intro K
            refine while_dup (E := ends q) (x := x) (z := t.headD lastS) (n := pa.length + 1) rfl rfl rfl rfl rfl rfl (by decide) (by decide) ?_ ?_ (ltS_ne sq.head_lt).symm (by omega) (by decide) (by decide) (by decide) ?_
            · rw [hA, ends_at1]
            · rw [hA, ends_at2]
            refine st_nil ⟨rfl, st_nil (st_nil (st_nil (st_nil ⟨r.length + t.length, by rw [List.length_cons, List.length_cons]; omega, r, t, pe ++ [x, x], pa ++ [x, x], m, u, rfl, ?_, rfl, ?_, ?_, sp.tail, sq.tail, ?_, ?_⟩)))⟩
            · refine Has.sub ⟨rfl, rfl, ?_, ?_, rfl, rfl, trivial⟩
              · rw [List.length_append]; rfl
              · rw [List.length_append]; rfl
            · rw [hE, ends_cons]; simp
            · rw [hA, ends_cons]; simp
            · rw [← hm, diff_both nr]
            · rw [← hu, diff_both nt]
    · rintro ex l'' H'' ⟨rfl, rfl, rfl, hs'⟩
      simp only [List.length_nil, Nat.mul_zero, Nat.zero_add] at l1 l2
      have e1 : (txts (ends p)).drop (pe.length + 1) = [] := List.drop_of_length_le (by rw [List.length_map, lE]; omega)
      have e2 : (txts (ends q)).drop (pa.length + 1) = [] := List.drop_of_length_le (by rw [List.length_map, lA]; omega)
      refine st_less hs' (st_cons' ?_)
      intro K
      refine sx_expr ?_
      refine ex_meth F.plainAttrs_list F.slot_list_extend (by first | exact F.type_list_extend | decide +kernel) ?_
      refine ex_local rfl rfl ⟨isT_list (by simp [keys]), el_cons ?_⟩
      refine ex_slice (ex_local rfl rfl ⟨rfl, eo_some (ex_local rfl rfl ⟨_, rfl, eo_none (eo_none ⟨by simp, _, rfl, by rw [List.length_map]; omega, ?_⟩)⟩)⟩)
      rw [show (((pe.length : Nat) : Int) + 1) = ((pe.length + 1 : Nat) : Int) from rfl, pick_from _ _ (by rw [List.length_map]; omega), e1]
      refine el_nil ⟨isT_list (by simp [keys]), op_extend (H₁ := [(un, txts u)]) (by simp; omega) ?_⟩
      rw [List.append_nil]
      refine st_cons' ?_
      intro K
      refine sx_expr ?_
      refine ex_meth F.plainAttrs_list F.slot_list_extend (by first | exact F.type_list_extend | decide +kernel) ?_
      refine ex_local rfl rfl ⟨isT_list (by simp [keys]), el_cons ?_⟩
      refine ex_slice (ex_local rfl rfl ⟨rfl, eo_some (ex_local rfl rfl ⟨_, rfl, eo_none (eo_none ⟨by simp, _, rfl, by rw [List.length_map]; omega, ?_⟩)⟩)⟩)
      rw [show (((pa.length : Nat) : Int) + 1) = ((pa.length + 1 : Nat) : Int) from rfl, pick_from _ _ (by rw [List.length_map]; omega), e2]
      refine el_nil ⟨isT_list (by simp [keys]), op_extend (H₁ := []) (by simp; omega) ?_⟩
      rw [List.append_nil]
      refine st_cons' ?_
      intro K
      refine sx_break ?_
      refine st_cons' ?_
      intro K
      refine sx_return (ex_tuple (el_cons (ex_forget (ex_local rfl rfl ⟨mi, _, [(un, txts u)], H, rfl, rfl, el_cons (ex_forget (ex_local rfl rfl ⟨un, _, [], H, rfl, rfl, el_nil ⟨Nat.le_of_ble_eq_true rfl, ?_⟩⟩))⟩))))
      rw [show diffS [] [] = ([] : List Str) from rfl, List.append_nil] at hm hu
      rw [hm, hu]
      exact pp
  · obtain ⟨a, b, rfl⟩ := two_args h; rfl
end
end Mine
namespace Mine
open PySem PySem.Calls PyProof.Rows PySem.Spec PySem.SeqAt

section
variable {prog : Program} {w : World} {B : GB} {A : Around} {env : Env} {l : Loc} {H : HP} {P : AF → Loc → HP → Prop}
theorem sx_assert {test : Expr} {msg : Option Expr} {pos : Pos} (h : TX prog w B A env l test H fun b H₁ => b = true ∧ P .next l H₁) : SX prog w B A env (.Assert test msg pos) l H P := .mk fun s E hr F =>
  wpAny_Assert_holds (useB (h.run s E hr F.toFR) fun b H₁ h₁ tk₁ p hr₁ t₁ => ⟨p.1, .next, l, H₁, h₁, tk₁, rfl, p.2, trivial, hr₁, F.tr t₁, t₁.up⟩)
end
noncomputable def Plain4 (c : Nat) : Prop := c = 45 ∨ c = 114 ∨ c = 119 ∨ c = 120
noncomputable def esc1 (c : Nat) : List Nat := if c = 45 then [92, 45] else [c]
noncomputable def piece (c : Nat) : List Nat := if c = 63 then [46] else esc1 c
theorem sx1_eq (c d : Nat) : (sx [c] == sx [d]) = (c == d) := by
  by_cases h : c = d
  · subst h; simp
  · rw [beq_eq_false_iff_ne.mpr h]
    exact beq_eq_false_iff_ne.mpr fun e => h (by simpa [sx] using e)

section
variable {w : World} {B : GB} {A : Around} {H : HP} {gl : Str → Option Value} {D : Ad} {P : AV → HP → Prop}
theorem c_esc (W : Wo w B.heap gl D) (R : Rm A 1) {c : Nat} (hc : Plain4 c) (p : P (.str (sx (esc1 c))) H) : CF PG w B A H [.str (sx [c])] D.esc P := by
  refine cf_fn (ns := ["pattern"]) W W.esc.2 R (fun name qual doc pm an cdv ct L hL => ?_) (fun _ _ _ _ _ _ _ vs h => ?_) (by decide)
  · intro env A' B' W R'
    refine st_cons' ?_
    intro K
    refine sx_if (tx_value ?_)
    refine ex_callBi (id := "isinstance") W W.isinst rfl ?_
    refine el_cons (ex_local rfl rfl (el_cons (ex_builtin W.base rfl W.str rfl (el_nil (op_isinstanceStr (opb_bool ?_))))))
    (first | refine ifyes rfl ?_ | rw [if_pos rfl])
    refine st_cons' ?_
    intro K
    refine sx_return ?_
    refine ex_meth F.plainAttrs_str F.slot_str_translate (by first | exact F.type_str_translate | decide +kernel) ?_
    refine ex_local rfl rfl ⟨isT_str, el_cons (ex_global W.base rfl W.chars.1 (fun _ _ => .val _) (el_nil ⟨isT_str, ?_⟩))⟩
    obtain ⟨_, hsm, f, hm, f45, f114, f119, f120⟩ := W.chars
    refine op_translate (f := f) R'.hh hm hsm (by rcases hc with rfl | rfl | rfl | rfl <;> decide) ?_ p
    rcases hc with rfl | rfl | rfl | rfl
    · exact .inr ⟨f45, rfl⟩
    · exact .inl ⟨f114, rfl⟩
    · exact .inl ⟨f119, rfl⟩
    · exact .inl ⟨f120, rfl⟩
  · obtain ⟨a, rfl⟩ := one_arg h; rfl
theorem c_trl (W : Wo w B.heap gl D) (R : Rm A 2) {pat : List Nat} (hl : pat.length ≤ 20) (hc : ∀ c ∈ pat, c = 63 ∨ Plain4 c) (p : P (.lst (txts (pat.map fun c => sx (piece c)))) H) :
    CF PG w B A H [.str (sx pat), .none, .str (sx [46])] D.trl P := by
  refine cf_fn (ns := ["pat", "STAR", "QUESTION_MARK"]) W W.trl.2 R (fun name qual doc pm an cdv ct L hL => ?_) (fun _ _ _ _ _ _ _ vs h => ?_) (by decide)
  · intro env A' B' W R'
    refine st_cons' ?_
    intro K
    refine sx_assign (ex_listT (el_nil ⟨by decide, fun q => as_local rfl ?_⟩))
    refine st_cons' ?_
    intro K
    refine sx_assign (ex_appendOf (ex_local rfl rfl ⟨q, rfl, by simp [keys], as_local rfl ?_⟩))
    refine st_cons' ?_
    intro K
    refine sx_tuple2 R'.hh (ex_tuple (el_cons (ex_int (el_cons ?_))))
    refine ex_callBi (id := "len") W W.len rfl ?_
    refine el_cons (ex_local rfl rfl (el_nil (op_lenS (by rw [sx_length]; omega) (el_nil ⟨Nat.le_of_ble_eq_true rfl, _, _, rfl, as_bind (as_local rfl (as_bind (as_local rfl ?_)))⟩))))
    rw [sx_length]
    let Inv : Nat → Loc → HP → Prop := fun k l' H' => ∃ i : Nat, k = pat.length - i ∧ i ≤ pat.length ∧ Sub [("pat", .str (sx pat)), ("STAR", .none), ("QUESTION_MARK", .str (sx [46])), ("res", .list q), ("add", .bm "list.append" (.list q)), ("i", .int i), ("n", .int pat.length)] l' ∧ H' = (q, txts ((pat.take i).map fun c => sx (piece c))) :: H
    refine st_cons' ?_
    intro K
    refine sx_while Inv pat.length ⟨0, rfl, Nat.zero_le _, Has.sub ⟨rfl, rfl, rfl, rfl, rfl, rfl, rfl, trivial⟩, rfl⟩ ?_
    rintro k l' H' ⟨i, rfl, hi, hs, rfl⟩
    refine tx_cmp1 (ex_local rfl (hs _ _ rfl) (ex_local rfl (hs _ _ rfl) (op_lt ⟨_, rfl, ?_⟩)))
    by_cases hin : i < pat.length
    · (first | refine ifyes (by simp; omega) ?_ | rw [if_pos (by simp; omega)])
      obtain ⟨c, hcc⟩ : ∃ c, pat[i]? = some c := ⟨_, List.getElem?_eq_getElem hin⟩
      have hc := hc c (List.mem_of_getElem? hcc)
      have htk : txts ((pat.take (i + 1)).map fun c => sx (piece c)) = txts ((pat.take i).map fun c => sx (piece c)) ++ [.str (sx (piece c))] := by
        rw [take_succ_of hcc]; simp [txts]
      have hsz : (txts ((pat.take i).map fun c => sx (piece c))).length ≤ 1000 := by simp [txts]; omega
      generalize txts ((pat.take i).map fun c => sx (piece c)) = acc at *
      refine st_less hs (st_cons' ?_)
      intro K
      refine sx_assign (ex_item item_str (ex_local rfl rfl (ex_local rfl rfl ⟨isT_str, op_itemS (c := c) (by omega) ?_ (by rw [sx_length]; omega) (as_local rfl ?_)⟩)))
      · simp [sx, hcc]
      refine st_cons' ?_
      intro K
      refine sx_assign (ex_binop (ex_local rfl rfl (ex_int (op_add (as_local rfl ?_)))))
      refine st_cons' ?_
      intro K
      refine sx_if (tx_cmp1 (ex_local rfl rfl (ex_str (op_eqs ⟨_, rfl, ?_⟩))))
      refine ifnot (fun q => absurd ((show ((⟨#[c]⟩ : Str) == Str.ofString "*") = (c == 42) from sx1_eq c 42).symm.trans q) (by rcases hc with rfl | rfl | rfl | rfl | rfl <;> decide)) ?_
      refine st_cons' ?_
      intro K
      refine sx_if (tx_cmp1 (ex_local rfl rfl (ex_str (op_eqs ⟨_, rfl, ?_⟩))))
      rw [show ((⟨#[c]⟩ : Str) == Str.ofString "?") = (c == 63) from sx1_eq c 63]
      by_cases h63 : c = 63
      · (first | refine ifyes (by simp [h63]) ?_ | rw [if_pos (by simp [h63])])
        refine st_cons' ?_
        intro K
        refine sx_expr (ex_callBm (H₁ := []) (H₂ := H) (ex_local rfl rfl ⟨rfl, el_cons (ex_local rfl rfl (el_nil ⟨_, rfl, rfl, hsz, ?_⟩))⟩))
        refine st_nil (st_nil (st_nil ⟨pat.length - (i + 1), by omega, i + 1, rfl, hin, Has.sub ⟨rfl, rfl, rfl, rfl, rfl, rfl, rfl, trivial⟩, ?_⟩))
        rw [htk, piece, if_pos h63]; rfl
      · (first | refine ifnot (by simp [h63]) ?_ | rw [if_neg (by simp [h63])])
        have h4 : Plain4 c := hc.resolve_left h63
        refine st_cons' ?_
        intro K
        refine sx_if (tx_cmp1 (ex_local rfl rfl (ex_str (op_eqs ⟨_, rfl, ?_⟩))))
        refine ifnot (fun q => absurd ((show ((⟨#[c]⟩ : Str) == Str.ofString "[") = (c == 91) from sx1_eq c 91).symm.trans q) (by rcases h4 with rfl | rfl | rfl | rfl <;> decide)) ?_
        refine st_cons' ?_
        intro K
        refine sx_expr (ex_callBm (H₁ := []) (H₂ := H) (xs := acc) (ex_local rfl rfl ⟨rfl, el_cons ?_⟩))
        refine ex_callG W W.esc ?_
        refine el_cons (ex_local rfl rfl (el_nil (c_esc W R' h4 (el_nil ⟨_, rfl, rfl, hsz, ?_⟩))))
        refine st_nil (st_nil (st_nil (st_nil ⟨pat.length - (i + 1), by omega, i + 1, rfl, hin, Has.sub ⟨rfl, rfl, rfl, rfl, rfl, rfl, rfl, trivial⟩, ?_⟩)))
        rw [htk, piece, if_neg h63]; rfl
    · (first | refine ifnot (by simp; omega) ?_ | rw [if_neg (by simp; omega)])
      have : i = pat.length := by omega
      subst this
      rw [List.take_length]
      refine st_less hs (st_cons' ?_)
      intro K
      refine sx_assert (tx_cmp1 (ex_local rfl rfl (ex_local rfl rfl (op_eq ⟨_, rfl, by simp, ?_⟩))))
      exact st_cons (sx_return (ex_forget (ex_local rfl rfl ⟨q, _, [], H, rfl, rfl, p⟩)))
  · obtain ⟨a, b, c, rfl⟩ := three_args h; rfl
end
end Mine
namespace Mine
open PySem PySem.Calls PyProof.Rows PySem.Spec PySem.SeqAt

noncomputable def mk (nl : Addr) (done : List Nat) (d : Nat) : AV := if d ∈ done then .obj nl else .str (sx [d])
theorem mk_congr {nl : Addr} {a b : List Nat} (h : ∀ d, d ∈ a ↔ d ∈ b) : mk nl a = mk nl b := by
  funext d; simp [mk, h]
noncomputable def mixL (nl : Addr) (c : Nat) (done l : List Nat) (j : Nat) : List AV := (l.take j).map (mk nl (c :: done)) ++ (l.drop j).map (mk nl done)
theorem mix_len (nl : Addr) (c : Nat) (done l : List Nat) (j : Nat) : (mixL nl c done l j).length = l.length := by
  simp [mixL]; omega
theorem mix_get {nl : Addr} {c : Nat} {done l : List Nat} {j d : Nat} (h : l[j]? = some d) : (mixL nl c done l j)[j]? = some (mk nl done d) := by
  have hj := (List.getElem?_eq_some_iff.mp h).1
  unfold mixL
  rw [List.getElem?_append_right (by simp; omega), List.length_map, List.length_take, Nat.min_eq_left (by omega), Nat.sub_self, List.getElem?_map, List.getElem?_drop, Nat.add_zero, h]
  rfl
theorem mix_step {nl : Addr} {c : Nat} {done l : List Nat} {j d : Nat} (h : l[j]? = some d) : mixL nl c done l (j + 1) = (l.take j).map (mk nl (c :: done)) ++ mk nl (c :: done) d :: (l.drop (j + 1)).map (mk nl done) := by
  unfold mixL
  rw [take_succ_of h, List.map_append, List.append_assoc]; rfl
theorem mix_now {nl : Addr} {c : Nat} {done l : List Nat} {j d : Nat} (h : l[j]? = some d) : mixL nl c done l j = (l.take j).map (mk nl (c :: done)) ++ mk nl done d :: (l.drop (j + 1)).map (mk nl done) := by
  unfold mixL
  have hj := (List.getElem?_eq_some_iff.mp h)
  rw [List.drop_eq_getElem_cons hj.1, hj.2]; rfl
theorem mix_hit {nl : Addr} {c : Nat} {done l : List Nat} {j : Nat} (h : l[j]? = some c) : (mixL nl c done l j).set j (.obj nl) = mixL nl c done l (j + 1) := by
  have hj := (List.getElem?_eq_some_iff.mp h).1
  rw [mix_step h, mix_now h, List.set_append_right _ _ (by simp; omega), List.length_map, List.length_take, Nat.min_eq_left (by omega), Nat.sub_self]
  simp [mk]
theorem mix_miss {nl : Addr} {c : Nat} {done l : List Nat} {j d : Nat} (h : l[j]? = some d) (hd : d ≠ c) : mixL nl c done l j = mixL nl c done l (j + 1) := by
  rw [mix_step h, mix_now h]
  simp [mk, hd]
theorem mix_start {nl : Addr} {c : Nat} {done l : List Nat} {j : Nat} (h : c ∉ l.take j) : mixL nl c done l j = l.map (mk nl done) := by
  unfold mixL
  rw [show (l.take j).map (mk nl (c :: done)) = (l.take j).map (mk nl done) from List.map_congr_left fun d hd => by
    have : d ≠ c := fun e => h (e ▸ hd)
    simp [mk, this], ← List.map_append, List.take_append_drop]
theorem mix_end (nl : Addr) (c : Nat) (done l : List Nat) : mixL nl c done l l.length = l.map (mk nl (c :: done)) := by
  simp [mixL]
theorem count_step {l : List Nat} {j d c : Nat} (h : l[j]? = some d) : (l.take (j + 1)).count c = (l.take j).count c + if d = c then 1 else 0 := by
  rw [take_succ_of h, List.count_append, List.count_singleton]
  simp [beq_iff_eq]

theorem told_mem (one two : List Nat) (c : Nat) : ∀ l : List Nat, ((one.count c, two.count c, c) ∈ l.foldl (cstep one two) [] ↔ c ∈ l ∧ one.count c ≠ two.count c) := by
  have key : ∀ (l : List Nat) (t : List Row3), ((one.count c, two.count c, c) ∈ l.foldl (cstep one two) t ↔ (one.count c, two.count c, c) ∈ t ∨ (c ∈ l ∧ one.count c ≠ two.count c)) := by
    intro l
    induction l with
    | nil => intro t; simp
    | cons d l ih =>
      intro t
      rw [List.foldl_cons, ih]
      unfold cstep
      by_cases hd : d = c
      · subst hd
        by_cases hne : one.count d = two.count d
        · simp [hne]
        · by_cases hin : (one.count d, two.count d, d) ∈ t
          · simp [hin, hne]
          · (first | refine ifyes ⟨hne, hin⟩ ?_ | rw [if_pos ⟨hne, hin⟩])
            simp [hne]
      · have hdc : ¬ c = d := fun e => hd e.symm
        split
        · simp [hdc]
        · simp [hdc]
  intro l
  rw [key l []]
  simp
theorem cstep_new {one two l : List Nat} {c : Nat} (h : c ∉ l) : cstep one two (l.foldl (cstep one two) []) c = if one.count c ≠ two.count c then l.foldl (cstep one two) [] ++ [(one.count c, two.count c, c)] else l.foldl (cstep one two) [] := by
  have := told_mem one two c l
  generalize l.foldl (cstep one two) [] = t at *
  unfold cstep
  have ht : (one.count c, two.count c, c) ∉ t := fun q => h (this.mp q).1
  by_cases hne : one.count c = two.count c <;> simp [hne, ht]
theorem cstep_old {one two l : List Nat} {c : Nat} (h : c ∈ l) : cstep one two (l.foldl (cstep one two) []) c = l.foldl (cstep one two) [] := by
  have := told_mem one two c l
  generalize l.foldl (cstep one two) [] = t at *
  unfold cstep
  rw [if_neg]
  rintro ⟨hne, hn⟩
  exact hn (this.mpr ⟨h, hne⟩)

section
variable {prog : Program} {w : World} {B : GB} {A : Around} {env : Env} {l : Loc} {P : AF → Loc → HP → Prop}
theorem if_hit {x : Expr} {p1 p2 p3 p4 p5 p6 p7 p8 p9 p10 p11 : Pos} {k1 : Nat} {s cn : Str} {a nl : Addr} {xs : List AV} {pre post : HP} {c d k v : Nat} {done : List Nat}
    (hE : ∀ Q : AV → HP → Prop, Q (mk nl done d) (pre ++ (a, xs) :: post) → EX prog w B A env l x (pre ++ (a, xs) :: post) Q)
    (ks : env.kindOf s = some .local) (kc : env.kindOf cn = some .local) (ke : env.kindOf "elem" = some .local) (kj : env.kindOf "j" = some .local) (kn : env.kindOf "NULL" = some .local)
    (le : lk l "elem" = some (.str (sx [c]))) (lc : lk l cn = some (.int v)) (ls : lk l s = some (.list a)) (lj : lk l "j" = some (.int k)) (ln : lk l "NULL" = some (.obj nl))
    (nc : cn ≠ s ∧ cn ≠ "j" ∧ cn ≠ "NULL") (ds : (s == ("__debug__" : Str)) = false) (hu : A.units < cLine) (hk : k < xs.length) (hsz : xs.length ≤ 1000) (hc : c ∉ done)
    (hit : d = c → P .next (put l cn (.int ((v : Int) + 1))) (pre ++ (a, xs.set k (.obj nl)) :: post)) (miss : d ≠ c → P .next l (pre ++ (a, xs) :: post))
    (hsw : swapsWith (.Name "NULL" p6) (some (.Subscript (.Name s p7) (.Name "j" p8) p9)) p10.line env = pure false := by rfl) :
    SX prog w B A env (.If (.Compare x [.Eq] [.Name "elem" p1] p2) [.AugAssign (.Name cn p3) .Add (.Constant (.int 1) k1 p4) p5, .Assign [.Subscript (.Name s p7) (.Name "j" p8) p9] (.Name "NULL" p6) p10] [] p11) l (pre ++ (a, xs) :: post) P := by
  refine sx_if (tx_cmp1 (hE _ ?_))
  refine ex_local ke le ?_
  by_cases hd : d ∈ done
  · have hdc : d ≠ c := fun e => hc (e ▸ hd)
    rw [mk, if_pos hd]
    refine op_eq_obj_str hu ⟨_, rfl, ?_⟩
    refine ifnot (by decide) (st_nil (miss hdc))
  · rw [mk, if_neg hd]
    refine op_eqs ⟨_, rfl, ?_⟩
    rw [sx1_eq]
    by_cases hdc : d = c
    · (first | refine ifyes (by simp [hdc]) ?_ | rw [if_pos (by simp [hdc])])
      refine st_cons (sx_aug kc lc (ex_int (op_iadd (as_local kc ?_))))
      refine st_cons (sx_setitem (ex_local kn (lk_some_put ln (Ne.symm nc.2.2)) (ex_local ks (lk_some_put ls (Ne.symm nc.1)) (ex_local kj (lk_some_put lj (Ne.symm nc.2.1)) ⟨a, k, pre, xs, post, rfl, rfl, rfl, by omega, by omega, hsz, st_nil ?_⟩) ds)) hsw)
      exact hit hdc
    · (first | refine ifnot (by simp [hdc]) ?_ | rw [if_neg (by simp [hdc])])
      exact st_nil (miss hdc)
end
end Mine
namespace Mine
open PySem PySem.Calls PyProof.Rows PySem.Spec PySem.SeqAt

theorem four_args {vs : List Value} (h : vs.length = 4) : ∃ a b c d, vs = [a, b, c, d] := by
  match vs, h with
  | [a, b, c, d], _ => exact ⟨a, b, c, d, rfl⟩
noncomputable abbrev misA (C : Addr) (r : Row3) : AV := .mis C [.int r.1, .int r.2.1, .str (sx [r.2.2])]
theorem Rm.near {A A' : Around} {k : Nat} (R : Rm A (k + 1)) (h1 : A'.handled = A.handled) (h2 : A'.depth ≤ A.depth + 1) (h3 : A'.units ≤ A.units + 4) : Rm A' k :=
  ⟨h1.trans R.hh, by have := R.depth; omega, by have := R.units; omega⟩

section
variable {prog : Program} {w : World} {B : GB} {A : Around} {env : Env} {l : Loc} {H : HP} {P : AV → HP → Prop}
theorem ex_callNew2 {px apos pos : Pos} {e : Expr} {es : List Expr} (h : EX prog w B A env l (.Name (Str.ofString "tuple") px) H fun a H₁ => a = .val (.type "tuple") ∧ EL prog w B A env l pos (e :: es) H₁ fun as H₂ => OP prog w B A H₂ as (cl (.builtin "tuple.__new__")) P)
    (hbase : attributeBase (.Name (Str.ofString "tuple") px) (Str.ofString "__new__") env (eval (.Name (Str.ofString "tuple") px) env) = eval (.Name (Str.ofString "tuple") px) env := by rfl)
    (hfew : methodCallForm ((e :: es).length + ([] : List Keyword).length) (backTo pos (starEach (e :: es) env)) (backToKw pos (keywordEach [] env)) = true := by rfl)
    (hline : (apos.endLine == pos.line) = true := by rfl)
    (he : starEach (e :: es) env = (false, eval e env) :: starEach es env := by rfl) (hplain : (backTo pos (starEach es env)).any (·.1) = false := by rfl) :
    EX prog w B A env l (.Call (.Attribute (.Name (Str.ofString "tuple") px) (Str.ofString "__new__") apos) (e :: es) [] pos) H P := .mk fun s E hr F => by
  rw [arm_eval_Call, hbase]
  refine wpAny_bind (use (h.run s E hr F) fun a v H₁ h₁ tk₁ p r hr₁ t₁ => ?_)
  obtain ⟨rfl, p⟩ := p
  cases r
  have hpos : methodCallPos true (.Name (Str.ofString "tuple") px) env apos pos = pure pos := by unfold methodCallPos; simp [hline]
  refine wpAny_bind (wpAny_standAt ?_)
  unfold methodCall
  rw [hfew]
  refine wpAny_bind (wpAny_holding (getm_tupleNew ?_))
  refine wpAny_bind (wpAny_of_eq hpos ?_)
  have p' := p.run { s with heap := h₁, toks := tk₁ + 1 } E hr₁ (F.tr t₁)
  rw [he] at p' ⊢
  refine callWith_builtin (by show (false || (backTo pos (starEach es env)).any (·.1)) = false; rw [hplain]; rfl) (evalArgs_plain (useL p' fun as vs H₂ h₂ tk₂ p₂ r₂ hr₂ t₂ => ?_))
  exact back (t₁.trans' t₂) (p₂.run { s with heap := h₂, toks := tk₂ } E vs hr₂ r₂)
end
section
variable {w : World} {B : GB} {A : Around} {H : HP} {gl : Str → Option Value} {D : Ad} {P : AV → HP → Prop}
theorem c_misNew (W : Wo w B.heap gl D) (R : Rm A 1) {a b c : AV} (p : P (.mis D.mis [a, b, c]) H) : CF PG w B A H [.val (.ref D.mis), a, b, c] D.misNew P := by
  refine cf_fn (ns := ["_cls", "actual", "expected", "value"]) W W.mis.2.2 R (fun name qual doc pm an cdv ct L hL => ?_) (fun _ _ _ _ _ _ _ vs h => ?_) (by decide)
  · intro env A' B' W R'
    refine st_cons' ?_
    intro K
    refine sx_expr (ex_str ?_)
    refine st_cons' ?_
    intro K
    refine sx_return ?_
    refine ex_callNew2 (ex_builtin W.base rfl W.tuple rfl ⟨rfl, ?_⟩)
    refine el_cons (ex_local rfl rfl (el_cons (ex_tuple (el_cons (ex_local rfl rfl (el_cons (ex_local rfl rfl (el_cons (ex_local rfl rfl (el_nil ⟨Nat.le_of_ble_eq_true rfl, el_nil ?_⟩)))))))))) 
    exact op_tupleNew W.mis.2.1 (Nat.le_of_ble_eq_true rfl) p
  · obtain ⟨a, b, c, d, rfl⟩ := four_args h; rfl
end
end Mine
namespace Mine
open PySem PySem.Calls PyProof.Rows PySem.Spec PySem.SeqAt

noncomputable def toldA (C : Addr) (one two l : List Nat) : List AV := (l.foldl (cstep one two) []).map (misA C)
theorem toldA_len (C : Addr) (one two l : List Nat) : (toldA C one two l).length ≤ l.length := by
  rw [toldA, List.length_map]
  exact Nat.le_trans (cfold_len one two l []) (by simp)
theorem toldA_snoc (C : Addr) (one two l : List Nat) (c : Nat) : toldA C one two (l ++ [c]) = (cstep one two (l.foldl (cstep one two) []) c).map (misA C) := by
  rw [toldA, List.foldl_append]; rfl
theorem nums_get {a c : Int} {n k : Nat} {x : AV} (h : (nums a c n)[k]? = some x) : k < n ∧ x = .int (a + (k : Int) * c) := by
  unfold nums at h
  rw [List.getElem?_map] at h
  obtain ⟨k', h2, rfl⟩ := Option.map_eq_some_iff.mp h
  obtain ⟨q, h3⟩ := List.getElem?_eq_some_iff.mp h2
  rw [List.getElem_range] at h3
  subst h3
  exact ⟨by simpa using q, rfl⟩
theorem mk_snoc (nl : Addr) (l : List Nat) (c : Nat) : mk nl (l ++ [c]) = mk nl (c :: l) := mk_congr fun d => by
  simp only [List.mem_append, List.mem_cons, List.not_mem_nil, or_false]
  exact Or.comm
theorem mk_same {nl : Addr} {l : List Nat} {c : Nat} (h : c ∈ l) : mk nl (l ++ [c]) = mk nl l := mk_congr fun d => by
  simp only [List.mem_append, List.mem_singleton]
  exact ⟨fun q => q.elim id fun q => q ▸ h, .inl⟩
theorem at_ne {a b : Addr} (h : a ≠ b) : (a == b) = false := beq_eq_false_iff_ne.mpr h

section
variable {w : World} {B : GB} {A : Around} {H : HP} {gl : Str → Option Value} {D : Ad} {P : AV → HP → Prop}
theorem c_cdp (W : Wo w B.heap gl D) (R : Rm A 3) {one two : List Nat} (h1 : one.length ≤ 10) (h2 : two.length ≤ 10) (p : P (.lst ((counted one two).map (misA D.mis))) H) :
    CF PG w B A H [.str (sx one), .str (sx two)] D.cdp P := by
  refine cf_fn (ns := ["actual", "expected"]) W W.cdp.2 R (fun name qual doc pm an cdv ct L hL => ?_) (fun _ _ _ _ _ _ _ vs h => ?_) (by decide)
  · intro env A' B' W R'
    refine st_cons' ?_
    intro K
    refine sx_expr (ex_str ?_)
    refine st_cons' ?_
    intro K
    refine sx_tuple2 R'.hh (ex_tuple (el_cons ?_))
    refine ex_callTy W W.list rfl ?_
    refine el_cons (ex_local rfl rfl (el_nil (op_listStr R'.hh (by rw [sx_length]; omega) fun sa => ?_)))
    refine el_cons ?_
    refine ex_callTy W W.list rfl ?_
    refine el_cons (ex_local rfl rfl (el_nil (op_listStr R'.hh (by rw [sx_length]; omega) fun ta => ?_)))
    rw [signs_sx, signs_sx]
    refine el_nil ⟨Nat.le_of_ble_eq_true rfl, _, _, rfl, as_bind (as_local rfl (as_bind (as_local rfl ?_)))⟩
    refine st_nodup fun nd => ?_
    have nst : sa ≠ ta := by
      simp only [keys, List.map_cons, List.nodup_cons, List.mem_cons, not_or] at nd
      exact Ne.symm nd.1.1
    have ls1 : ∀ {xs ys}, seqOf (.list sa) ((ta, ys) :: (sa, xs) :: H) = some xs := fun {xs ys} => by simp [seqOf, List.lookup_cons, at_ne nst]
    refine st_cons' ?_
    intro K
    refine sx_tuple2 R'.hh (ex_tuple (el_cons ?_))
    refine ex_callBi (id := "len") W W.len rfl ?_
    refine el_cons (ex_local rfl rfl (el_nil (op_lenL rfl ls1 (by rw [List.length_map]; omega) (el_cons ?_))))
    refine ex_callBi (id := "len") W W.len rfl ?_
    refine el_cons (ex_local rfl rfl (el_nil (op_lenL rfl seq_head (by rw [List.length_map]; omega) (el_nil ⟨Nat.le_of_ble_eq_true rfl, _, _, rfl, as_bind (as_local rfl (as_bind (as_local rfl ?_)))⟩))))
    rw [List.length_map, List.length_map]
    refine st_cons' ?_
    intro K
    refine sx_assign (ex_callT0 (ex_builtin W.base rfl W.object rfl ⟨rfl, op_object fun nl => as_local rfl ?_⟩))
    refine st_cons' ?_
    intro K
    refine sx_assign (ex_listT (el_nil ⟨by decide, fun re => as_local rfl ?_⟩))
    refine st_nodup fun nd => ?_
    have nrs : sa ≠ re ∧ ta ≠ re := by
      simp only [keys, List.map_cons, List.nodup_cons, List.mem_cons, not_or] at nd
      exact ⟨Ne.symm nd.1.2.1, Ne.symm nd.1.1⟩
    have ls : ∀ {xs ys zs}, seqOf (.list sa) ((re, zs) :: (ta, ys) :: (sa, xs) :: H) = some xs := fun {xs ys zs} => by simp [seqOf, List.lookup_cons, at_ne nst, at_ne nrs.1]
    have lt : ∀ {xs ys zs}, seqOf (.list ta) ((re, zs) :: (ta, ys) :: (sa, xs) :: H) = some ys := fun {xs ys zs} => by simp [seqOf, List.lookup_cons, at_ne nrs.2]
    have lse : ∀ {xs ys zs}, (seqOf (.list sa) ((re, zs) :: (ta, ys) :: (sa, xs) :: H)).map enumd = some (enumd xs) := fun {xs ys zs} => by rw [ls]; rfl
    have lte : ∀ {xs ys zs}, (seqOf (.list ta) ((re, zs) :: (ta, ys) :: (sa, xs) :: H)).map enumd = some (enumd ys) := fun {xs ys zs} => by rw [lt]; rfl
    have hu : A'.units < cLine := by have := R'.units; omega
    -- the first one's signs
    refine st_cons' ?_
    intro K
    refine sx_for (n := one.length) ?_
    refine itx_callTy W W.enum rfl ?_
    refine el_cons (ex_local rfl rfl (el_nil (opi_enumList R'.hh rfl (fun a e => by cases e; simp [keys]) ?_)))
    let Inv : Nat → Loc → HP → Prop := fun i l' H' => i ≤ one.length ∧ Sub [("s", .list sa), ("t", .list ta), ("m", .int one.length), ("n", .int two.length), ("NULL", .obj nl), ("result", .list re)] l' ∧ H' = (re, toldA D.mis one two (one.take i)) :: (ta, two.map (mk nl (one.take i))) :: (sa, one.map (mk nl (one.take i))) :: H
    refine ⟨Inv, ⟨Nat.zero_le _, Has.sub ⟨rfl, rfl, rfl, rfl, rfl, rfl, trivial⟩, ?_⟩, ?_⟩
    · simp [toldA, mk]
    rintro i l' H' ⟨hi, hs, rfl⟩
    refine ⟨_, lse, by rw [enumd_length, List.length_map], hi, fun x hx => ?_, fun hi => ?_⟩
    · obtain ⟨y, hy, rfl⟩ := enumd_get hx
      rw [List.getElem?_map] at hy
      obtain ⟨c, hc, rfl⟩ := Option.map_eq_some_iff.mp hy
      have hi' : i < one.length := (List.getElem?_eq_some_iff.mp hc).1
      have htl := toldA_len D.mis one two (one.take i)
      rw [List.length_take] at htl
      refine as_less hs (as_tuple2 R'.hh (as_bind (as_local rfl (as_bind (as_local rfl ?_)))))
      by_cases hin : c ∈ one.take i
      · rw [show mk nl (one.take i) c = .obj nl from if_pos hin]
        refine st_cons' ?_
        intro K
        refine sx_if (tx_cmp1 (ex_local rfl rfl (ex_local rfl rfl (op_is_obj_obj ⟨_, rfl, ?_⟩))))
        (first | refine ifyes rfl ?_ | rw [if_pos rfl])
        refine st_cons' ?_
        intro K
        refine sx_continue ⟨hi', Has.sub ⟨rfl, rfl, rfl, rfl, rfl, rfl, trivial⟩, ?_⟩
        rw [take_succ_of hc, mk_same hin, toldA_snoc, cstep_old hin]; rfl
      · rw [show mk nl (one.take i) c = .str (sx [c]) from if_neg hin]
        refine st_cons' ?_
        intro K
        refine sx_if (tx_cmp1 (ex_local rfl rfl (ex_local rfl rfl (op_is_str_obj ⟨_, rfl, ?_⟩))))
        (first | refine ifnot (by decide) ?_ | rw [if_neg (by decide)])
        refine st_nil (st_cons' ?_)
        intro K
        refine sx_assign2 (ex_int (as_name (as_local rfl (as_name (as_local rfl ?_)))))
        refine st_cons' ?_
        intro K
        refine sx_for (n := one.length - i) ?_
        refine itx_callTy W W.range rfl ?_
        refine el_cons (ex_local rfl rfl (el_cons (ex_local rfl rfl (el_nil (opi_range2 R'.hh (by omega) (by omega) (by omega) (by omega) ?_)))))
        rw [show ((one.length : Int) - (i : Int)).toNat = one.length - i by omega]
        have hc0 : (one.take i).count c = 0 := List.count_eq_zero.mpr hin
        let Inv : Nat → Loc → HP → Prop := fun k l' H' => k ≤ one.length - i ∧ Sub [("s", .list sa), ("t", .list ta), ("m", .int one.length), ("n", .int two.length), ("NULL", .obj nl), ("result", .list re), ("elem", .str (sx [c])), ("cnt_s", .int ((one.take (i + k)).count c : Nat)), ("cnt_t", .int 0)] l' ∧ H' = (re, toldA D.mis one two (one.take i)) :: (ta, two.map (mk nl (one.take i))) :: (sa, mixL nl c (one.take i) one (i + k)) :: H
        refine ⟨Inv, ⟨Nat.zero_le _, Has.sub ⟨rfl, rfl, rfl, rfl, rfl, rfl, rfl, ?_, rfl, trivial⟩, ?_⟩, ?_⟩
        · rw [Nat.add_zero, hc0]; rfl
        · rw [Nat.add_zero, mix_start hin]
        rintro k l' H' ⟨hk, hs', rfl⟩
        refine ⟨_, rfl, by simp [nums], hk, fun x hx => ?_, fun hk => ?_⟩
        · obtain ⟨hk', rfl⟩ := nums_get hx
          rw [show (i : Int) + (k : Int) * 1 = ((i + k : Nat) : Int) by omega]
          obtain ⟨d, hd⟩ : ∃ d, one[i + k]? = some d := ⟨_, List.getElem?_eq_getElem (by omega)⟩
          refine as_less hs' (as_name (as_local rfl ?_))
          refine st_cons (if_hit (pre := [(re, toldA D.mis one two (one.take i)), (ta, two.map (mk nl (one.take i)))]) (post := H) (a := sa) (nl := nl) (c := c) (d := d) (k := i + k) (v := (one.take (i + k)).count c) (done := one.take i) (xs := mixL nl c (one.take i) one (i + k))
            (fun Q q => ex_item item_list (ex_local rfl rfl (ex_local rfl rfl ⟨isT_list (by simp [keys]), op_itemL rfl ls (by omega) (by omega) (by rw [Int.toNat_natCast]; exact mix_get hd) q⟩))) rfl rfl rfl rfl rfl rfl rfl rfl rfl rfl (by decide) (by decide) hu (by rw [mix_len]; omega) (by rw [mix_len]; omega) hin (fun e => ?_) (fun e => ?_))
          · subst e
            refine st_nil ⟨by omega, Has.sub ⟨rfl, rfl, rfl, rfl, rfl, rfl, rfl, ?_, rfl, trivial⟩, ?_⟩
            · rw [← Nat.add_assoc, count_step hd, if_pos rfl]; rfl
            · rw [mix_hit hd]; rfl
          · refine st_nil ⟨by omega, Has.sub ⟨rfl, rfl, rfl, rfl, rfl, rfl, rfl, ?_, rfl, trivial⟩, ?_⟩
            · rw [← Nat.add_assoc, count_step hd, if_neg e]; rfl
            · rw [mix_miss hd e]; rfl
        · subst hk
          rw [show i + (one.length - i) = one.length by omega, List.take_length] at hs'
          rw [show i + (one.length - i) = one.length by omega, mix_end]
          refine st_nil (st_less hs' (st_cons' ?_))
          intro K
          refine sx_for (n := two.length) ?_
          refine itx_callTy W W.enum rfl ?_
          refine el_cons (ex_local rfl rfl (el_nil (opi_enumList R'.hh rfl (fun a e => by cases e; simp [keys]) ?_)))
          let Inv : Nat → Loc → HP → Prop := fun k l' H' => k ≤ two.length ∧ Sub [("s", .list sa), ("t", .list ta), ("m", .int one.length), ("n", .int two.length), ("NULL", .obj nl), ("result", .list re), ("elem", .str (sx [c])), ("cnt_s", .int (one.count c : Nat)), ("cnt_t", .int ((two.take k).count c : Nat))] l' ∧ H' = (re, toldA D.mis one two (one.take i)) :: (ta, mixL nl c (one.take i) two k) :: (sa, one.map (mk nl (c :: one.take i))) :: H
          refine ⟨Inv, ⟨Nat.zero_le _, Has.sub ⟨rfl, rfl, rfl, rfl, rfl, rfl, rfl, rfl, rfl, trivial⟩, ?_⟩, ?_⟩
          · rw [mix_start (by simp)]
          rintro k l' H' ⟨hk, hs', rfl⟩
          refine ⟨_, lte, by rw [enumd_length, mix_len], hk, fun x hx => ?_, fun hk => ?_⟩
          · obtain ⟨y, hy, rfl⟩ := enumd_get hx
            have hk' : k < two.length := by rw [← mix_len nl c (one.take i) two k]; exact (List.getElem?_eq_some_iff.mp hy).1
            obtain ⟨d, hd⟩ : ∃ d, two[k]? = some d := ⟨_, List.getElem?_eq_getElem hk'⟩
            rw [mix_get hd] at hy
            obtain rfl : mk nl (one.take i) d = y := by injection hy
            refine as_less hs' (as_tuple2 R'.hh (as_bind (as_local rfl (as_bind (as_local rfl ?_)))))
            refine st_cons (if_hit (pre := [(re, toldA D.mis one two (one.take i))]) (post := (sa, one.map (mk nl (c :: one.take i))) :: H) (a := ta) (nl := nl) (c := c) (d := d) (k := k) (v := (two.take k).count c) (done := one.take i) (xs := mixL nl c (one.take i) two k)
              (fun Q q => ex_local rfl rfl q) rfl rfl rfl rfl rfl rfl rfl rfl rfl rfl (by decide) (by decide) hu (by rw [mix_len]; omega) (by rw [mix_len]; omega) hin (fun e => ?_) (fun e => ?_))
            · subst e
              refine st_nil ⟨by omega, Has.sub ⟨rfl, rfl, rfl, rfl, rfl, rfl, rfl, rfl, ?_, trivial⟩, ?_⟩
              · rw [count_step hd, if_pos rfl]; rfl
              · rw [mix_hit hd]; rfl
            · refine st_nil ⟨by omega, Has.sub ⟨rfl, rfl, rfl, rfl, rfl, rfl, rfl, rfl, ?_, trivial⟩, ?_⟩
              · rw [count_step hd, if_neg e]; rfl
              · rw [mix_miss hd e]; rfl
          · subst hk
            rw [List.take_length] at hs'
            rw [mix_end]
            refine st_nil (st_less hs' (st_cons' ?_))
            intro K
            refine sx_if (tx_cmp1 (ex_local rfl rfl (ex_local rfl rfl (op_ne ⟨_, rfl, ?_⟩))))
            by_cases hne : one.count c = two.count c
            · (first | refine ifnot (by simp [hne]) ?_ | rw [if_neg (by simp [hne])])
              refine st_nil (st_nil ⟨hi', Has.sub ⟨rfl, rfl, rfl, rfl, rfl, rfl, trivial⟩, ?_⟩)
              rw [take_succ_of hc, mk_snoc, toldA_snoc, cstep_new hin, if_neg (fun q => q hne)]; rfl
            · (first | refine ifyes (by simp; omega) ?_ | rw [if_pos (by simp; omega)])
              refine st_cons' ?_
              intro K
              refine sx_assign (ex_callC W.mis.2.1 ?_)
              refine ex_global W.base rfl W.mis.1 (fun _ _ => .val _) ⟨rfl, ?_⟩
              refine el_cons (ex_local rfl rfl (el_cons (ex_local rfl rfl (el_cons (ex_local rfl rfl (el_nil (op_mis W.mis.2.1 (fun A' a b c => c_misNew W (R'.near a b c) ⟨rfl, rfl⟩) (as_local rfl ?_))))))))
              refine st_cons' ?_
              intro K
              refine sx_push rfl rfl (by simp) (ex_local rfl rfl ⟨[], _, _, rfl, by omega, ?_⟩)
              refine st_nil (st_nil ⟨hi', Has.sub ⟨rfl, rfl, rfl, rfl, rfl, rfl, trivial⟩, ?_⟩)
              rw [take_succ_of hc, mk_snoc, toldA_snoc, cstep_new hin, if_pos hne, List.map_append]; rfl
    · subst hi
      rw [List.take_length]
      -- the second one's signs that are left
      refine st_nil (st_less hs (st_cons' ?_))
      intro K
      refine sx_for (n := two.length) ?_
      refine itx_callTy W W.enum rfl ?_
      refine el_cons (ex_local rfl rfl (el_nil (opi_enumList R'.hh rfl (fun a e => by cases e; simp [keys]) ?_)))
      let Inv : Nat → Loc → HP → Prop := fun i l' H' => i ≤ two.length ∧ Sub [("s", .list sa), ("t", .list ta), ("m", .int one.length), ("n", .int two.length), ("NULL", .obj nl), ("result", .list re)] l' ∧ H' = (re, toldA D.mis one two (one ++ two.take i)) :: (ta, two.map (mk nl (one ++ two.take i))) :: (sa, one.map (mk nl one)) :: H
      refine ⟨Inv, ⟨Nat.zero_le _, Sub.refl _, ?_⟩, ?_⟩
      · rw [List.take_zero, List.append_nil]
      rintro i l' H' ⟨hi, hs, rfl⟩
      refine ⟨_, lte, by rw [enumd_length, List.length_map], hi, fun x hx => ?_, fun hi => ?_⟩
      · obtain ⟨y, hy, rfl⟩ := enumd_get hx
        rw [List.getElem?_map] at hy
        obtain ⟨c, hc, rfl⟩ := Option.map_eq_some_iff.mp hy
        have hi' : i < two.length := (List.getElem?_eq_some_iff.mp hc).1
        have htl := toldA_len D.mis one two (one ++ two.take i)
        rw [List.length_append, List.length_take] at htl
        have hnext : one ++ two.take (i + 1) = (one ++ two.take i) ++ [c] := by rw [take_succ_of hc, List.append_assoc]
        refine as_less hs (as_tuple2 R'.hh (as_bind (as_local rfl (as_bind (as_local rfl ?_)))))
        by_cases hin : c ∈ one ++ two.take i
        · rw [show mk nl (one ++ two.take i) c = .obj nl from if_pos hin]
          refine st_cons' ?_
          intro K
          refine sx_if (tx_cmp1 (ex_local rfl rfl (ex_local rfl rfl (op_is_obj_obj ⟨_, rfl, ?_⟩))))
          (first | refine ifyes rfl ?_ | rw [if_pos rfl])
          refine st_cons' ?_
          intro K
          refine sx_continue ⟨hi', Has.sub ⟨rfl, rfl, rfl, rfl, rfl, rfl, trivial⟩, ?_⟩
          rw [hnext, mk_same hin, toldA_snoc, cstep_old hin]; rfl
        · rw [show mk nl (one ++ two.take i) c = .str (sx [c]) from if_neg hin]
          refine st_cons' ?_
          intro K
          refine sx_if (tx_cmp1 (ex_local rfl rfl (ex_local rfl rfl (op_is_str_obj ⟨_, rfl, ?_⟩))))
          (first | refine ifnot (by decide) ?_ | rw [if_neg (by decide)])
          refine st_nil (st_cons' ?_)
          intro K
          refine sx_assign (ex_int (as_local rfl ?_))
          refine st_cons' ?_
          intro K
          refine sx_for (n := two.length - i) ?_
          refine itx_callTy W W.range rfl ?_
          refine el_cons (ex_local rfl rfl (el_cons (ex_local rfl rfl (el_nil (opi_range2 R'.hh (by omega) (by omega) (by omega) (by omega) ?_)))))
          rw [show ((two.length : Int) - (i : Int)).toNat = two.length - i by omega]
          have hin1 : c ∉ one := fun q => hin (List.mem_append_left _ q)
          have hin2 : c ∉ two.take i := fun q => hin (List.mem_append_right _ q)
          have hc0 : (two.take i).count c = 0 := List.count_eq_zero.mpr hin2
          have hc1 : one.count c = 0 := List.count_eq_zero.mpr hin1
          have hc2 : two.count c ≠ 0 := fun q => List.count_eq_zero.mp q (List.mem_of_getElem? hc)
          let Inv : Nat → Loc → HP → Prop := fun k l' H' => k ≤ two.length - i ∧ Sub [("s", .list sa), ("t", .list ta), ("m", .int one.length), ("n", .int two.length), ("NULL", .obj nl), ("result", .list re), ("elem", .str (sx [c])), ("cnt_t", .int ((two.take (i + k)).count c : Nat))] l' ∧ H' = (re, toldA D.mis one two (one ++ two.take i)) :: (ta, mixL nl c (one ++ two.take i) two (i + k)) :: (sa, one.map (mk nl one)) :: H
          refine ⟨Inv, ⟨Nat.zero_le _, Has.sub ⟨rfl, rfl, rfl, rfl, rfl, rfl, rfl, ?_, trivial⟩, ?_⟩, ?_⟩
          · rw [Nat.add_zero, hc0]; rfl
          · rw [Nat.add_zero, mix_start hin2]
          rintro k l' H' ⟨hk, hs', rfl⟩
          refine ⟨_, rfl, by simp [nums], hk, fun x hx => ?_, fun hk => ?_⟩
          · obtain ⟨hk', rfl⟩ := nums_get hx
            rw [show (i : Int) + (k : Int) * 1 = ((i + k : Nat) : Int) by omega]
            obtain ⟨d, hd⟩ : ∃ d, two[i + k]? = some d := ⟨_, List.getElem?_eq_getElem (by omega)⟩
            refine as_less hs' (as_name (as_local rfl ?_))
            refine st_cons (if_hit (pre := [(re, toldA D.mis one two (one ++ two.take i))]) (post := (sa, one.map (mk nl one)) :: H) (a := ta) (nl := nl) (c := c) (d := d) (k := i + k) (v := (two.take (i + k)).count c) (done := one ++ two.take i) (xs := mixL nl c (one ++ two.take i) two (i + k))
              (fun Q q => ex_item item_list (ex_local rfl rfl (ex_local rfl rfl ⟨isT_list (by simp [keys]), op_itemL rfl lt (by omega) (by omega) (by rw [Int.toNat_natCast]; exact mix_get hd) q⟩))) rfl rfl rfl rfl rfl rfl rfl rfl rfl rfl (by decide) (by decide) hu (by rw [mix_len]; omega) (by rw [mix_len]; omega) hin (fun e => ?_) (fun e => ?_))
            · subst e
              refine st_nil ⟨by omega, Has.sub ⟨rfl, rfl, rfl, rfl, rfl, rfl, rfl, ?_, trivial⟩, ?_⟩
              · rw [← Nat.add_assoc, count_step hd, if_pos rfl]; rfl
              · rw [mix_hit hd]; rfl
            · refine st_nil ⟨by omega, Has.sub ⟨rfl, rfl, rfl, rfl, rfl, rfl, rfl, ?_, trivial⟩, ?_⟩
              · rw [← Nat.add_assoc, count_step hd, if_neg e]; rfl
              · rw [mix_miss hd e]; rfl
          · subst hk
            rw [show i + (two.length - i) = two.length by omega, List.take_length] at hs'
            rw [show i + (two.length - i) = two.length by omega, mix_end]
            refine st_nil (st_less hs' (st_cons' ?_))
            intro K
            refine sx_assign (ex_callC W.mis.2.1 ?_)
            refine ex_global W.base rfl W.mis.1 (fun _ _ => .val _) ⟨rfl, ?_⟩
            refine el_cons (ex_int (el_cons (ex_local rfl rfl (el_cons (ex_local rfl rfl (el_nil (op_mis W.mis.2.1 (fun A' a b c => c_misNew W (R'.near a b c) ⟨rfl, rfl⟩) (as_local rfl ?_))))))))
            refine st_cons' ?_
            intro K
            refine sx_push rfl rfl (by simp) (ex_local rfl rfl ⟨[], _, _, rfl, by omega, ?_⟩)
            refine st_nil ⟨hi', Has.sub ⟨rfl, rfl, rfl, rfl, rfl, rfl, trivial⟩, ?_⟩
            rw [hnext, mk_snoc, toldA_snoc, cstep_new hin, if_pos (by omega), List.map_append, hc1]; rfl
      · subst hi
        rw [List.take_length]
        exact st_nil (st_less hs (st_cons (sx_return (ex_drop (ex_drop (ex_forget (ex_local rfl rfl ⟨re, _, [], _, rfl, rfl, [], ta, _, _, rfl, [], sa, _, H, rfl, p⟩)))))))
  · obtain ⟨a, b, rfl⟩ := two_args h; rfl
end
end Mine
namespace Mine
open PySem PySem.Calls PyProof.Rows PySem.Spec PySem.SeqAt

section
variable {prog : Program} {w : World} {B : GB} {A : Around} {env : Env} {l : Loc} {H : HP} {P : AV → HP → Prop}
theorem ex_sliceT {value : Expr} {lower upper step : Option Expr} {p pos : Pos}
    (h : EX prog w B A env l value H fun av H₁ => isL av = true ∧ EO prog w B A env l lower H₁ fun lo H₂ => EO prog w B A env l upper H₂ fun hi H₃ => EO prog w B A env l step H₃ fun st H₄ =>
      st ≠ some 0 ∧ ∃ xs, seqOf av H₄ = some xs ∧ xs.length ≤ 1000 ∧ ∀ a, P (.list a) ((a, pick xs lo hi st) :: H₄))
    (hsl : ∀ o i, ∃ ops, subscripted (.Slice lower upper step p) false o i = operate ops (getItem o i) := by exact fun o i => ⟨_, rfl⟩) :
    EX prog w B A env l (.Subscript value (.Slice lower upper step p) pos) H P := .mk fun s E hr F => by
  refine subs_core item_list (use (h.run s E hr F) fun av v H₁ h₁ tk₁ p r hr₁ t₁ => ?_) hsl
  refine wpAny_Slice (wpAny_mono (p.2.run { s with heap := h₁, toks := tk₁ } _ hr₁ (F.tr t₁)) (fun vl s₂ q => ?_) fun _ _ e => e)
  obtain ⟨lo, H₂, h₂, tk₂, rfl, pl, p₂, hr₂, t₂⟩ := q
  refine wpAny_mono (p₂.run { s with heap := h₂, toks := tk₂ } _ hr₂ ((F.tr t₁).tr t₂)) (fun vu s₃ q => ?_) fun _ _ e => e
  obtain ⟨hi, H₃, h₃, tk₃, rfl, pu, p₃, hr₃, t₃⟩ := q
  refine wpAny_mono (p₃.run { s with heap := h₃, toks := tk₃ } _ hr₃ (((F.tr t₁).tr t₂).tr t₃)) (fun vs s₄ q => ?_) fun _ _ e => e
  obtain ⟨st, H₄, h₄, tk₄, rfl, ps, ⟨h0, xs, hseq, hlen, p₄⟩, hr₄, t₄⟩ := q
  have r₄ := ((r.tr' t₂).tr' t₃).tr' t₄
  obtain ⟨a, us, n, rfl, e, rs⟩ := listAt p.1 r₄ hr₄ hseq
  have kp : ∀ b o, h₄.get? b = some o → (h₄.push { cls := .type "slice", data := .fields #[vl, vu, vs] }).get? b = some o := fun b o e => Heap.get?_push_of_some _ e
  refine ⟨⟨_, kp _ _ e, rfl⟩, wpAny_getItem_list_slice (isList_of (kp _ _ e)) (Heap.IsSliceOf.new ..) pl pu ps h0 ?_ (by rw [rs.size, sizeLine_eq]; omega)⟩
  have hr₅ := hr₄.keeps kp
  exact ⟨.list _, _, _, _, rfl, p₄ _, .list _, hr₅.pushNew ((rs.tr' (.keeps kp)).pick lo hi st), (((t₁.trans' t₂).trans' t₃).trans' t₄).trans' ((Tr.keeps kp).trans' .pushNew)⟩
end

theorem pick_all (xs : List AV) : pick xs none none none = xs := by
  unfold pick
  have e : sliceBounds none none none xs.length = (((0 : Nat) : Int), (xs.length : Int), 1) := by
    unfold sliceBounds
    simp
  rw [e]
  simp only [pick_run]
  simp
theorem nices_strs : ∀ ss : List Str, (∀ s ∈ ss, PyData.strOk s = true) → nices (ss.map .str) = true
  | [], _ => rfl
  | s :: ss, h => by simp only [List.map_cons, nices, nice, h s (.head _), nices_strs ss fun t ht => h t (.tail _ ht), Bool.and_self]
theorem strs_depth (ss : List Str) : (PyData.list (ss.map .str)).depth ≤ 1 := by
  induction ss with
  | nil => simp [PyData.depth, PyData.depthAll]
  | cons s ss ih => simp [PyData.depth, PyData.depthAll] at ih ⊢; omega
theorem sx_ok {l : List Nat} (h : ∀ c ∈ l, c < 128) : PyData.strOk (sx l) = true := by
  simp [PyData.strOk, sx]
  intro x hx; have := h x hx; omega
theorem sgc_lt (k : Nat) : sgc k < 128 := by
  unfold sgc
  have : k % 3 = 0 ∨ k % 3 = 1 ∨ k % 3 = 2 := by omega
  rcases this with h | h | h <;> rw [h] <;> decide
theorem sgc_plain (k : Nat) : Plain4 (sgc k) := by
  unfold sgc Plain4
  have : k % 3 = 0 ∨ k % 3 = 1 ∨ k % 3 = 2 := by omega
  rcases this with h | h | h <;> rw [h] <;> decide
theorem named_lt {p q : Nat → Bool} {k : Nat} (h : k ∈ named p q) : k < 9 := by
  have := (List.mem_filter.mp h).1
  revert this; unfold ord; simp; omega
theorem nms_ok {l : List Nat} (h : ∀ k ∈ l, k < 9) : ∀ s ∈ nms l, PyData.strOk s = true := by
  intro s hs
  obtain ⟨k, hk, rfl⟩ := List.mem_map.mp hs
  refine sx_ok fun c hc => ?_
  have := h k hk
  simp [nm] at hc
  rcases hc with rfl | rfl
  · exact sgc_lt k
  · omega
theorem signL_plain {p : Nat → Bool} {c : Nat} (h : c ∈ signL p) : Plain4 c := by
  rcases List.mem_cons.mp h with rfl | h
  · exact .inl rfl
  · obtain ⟨k, _, rfl⟩ := List.mem_map.mp h
    split
    · exact sgc_plain k
    · exact .inl rfl
theorem Plain4.lt {c : Nat} (h : Plain4 c) : c < 128 := by rcases h with rfl | rfl | rfl | rfl <;> decide
theorem signL_len (p : Nat → Bool) : (signL p).length = 10 := by simp [signL, nine]

theorem dup_sorted : ∀ {l : List Str}, l.Pairwise leS → (dup l).Pairwise leS
  | [], _ => .nil
  | x :: r, h => by
    obtain ⟨h1, h2⟩ := List.pairwise_cons.mp h
    have ih := dup_sorted h2
    have hx : ∀ y ∈ dup r, leS x y := fun y hy => by
      obtain ⟨z, hz, hy⟩ := List.mem_flatMap.mp hy
      simp at hy; subst hy; exact h1 y hz
    show (x :: x :: dup r).Pairwise leS
    refine List.pairwise_cons.mpr ⟨fun y hy => ?_, List.pairwise_cons.mpr ⟨hx, ih⟩⟩
    rcases List.mem_cons.mp hy with rfl | hy
    · exact List.le_refl _
    · exact hx y hy
theorem dup_perm : ∀ l : List Str, (dup l).Perm (List.replicate 2 l).flatten
  | [] => .refl _
  | x :: r => by
    have ih := dup_perm r
    have e : ∀ m : List Str, (List.replicate 2 m).flatten = m ++ m := fun m => by simp [List.replicate_succ]
    rw [e] at ih ⊢
    show (x :: x :: dup r).Perm (x :: r ++ x :: r)
    exact ((ih.cons x).cons x).trans ((List.perm_middle.symm).cons x)
theorem nms_srt {p q : Nat → Bool} : Srt (nms (named p q)) := by
  refine ⟨List.pairwise_map.mpr (List.Pairwise.filter _ (by decide +kernel)), fun x hx => ?_⟩
  obtain ⟨k, hk, rfl⟩ := List.mem_map.mp hx
  exact (show ∀ k ∈ ord, ltS (sx (nm k)) lastS by decide +kernel) k (List.mem_filter.mp hk).1
end Mine
namespace Mine
open PySem PySem.Calls PyProof.Rows PySem.Spec PySem.SeqAt

noncomputable def patL (one two : List Nat) : List Nat := (one.zip two).map fun x => if x.1 = x.2 then x.1 else 63
noncomputable def expL (one two : List Nat) : List (List Nat) := (one.zip two).map fun x => if x.1 = x.2 then esc1 x.1 else [46]
noncomputable def isDot (c : Nat) : Bool := c == 63
noncomputable abbrev twice (l : List Str) : List Str := (List.replicate 2 l).flatten
noncomputable abbrev fst0 (a : Int) : List Str := nms (named (bit a) (bit 0))
structure RightOK (a b : Int) : Prop where
  ma : modeL (32768 + a) = signL (bit a)
  mb : modeL (32768 + b) = signL (bit b)
  d01 : diffS (fst0 a) (fst0 b) = nms (named (bit a) (bit b))
  d10 : diffS (fst0 b) (fst0 a) = nms (named (bit b) (bit a))
  ul : uldS (twice (fst0 a)).reverse (fst0 b) = (more1 (twice (fst0 a)) (fst0 b), more2 (twice (fst0 a)) (fst0 b))
  dots : ((patL (signL (bit a)) (signL (bit b))).filter isDot).length = (named (bit a) (bit b)).length + (named (bit b) (bit a)).length
  lt : decide (signL (bit a) < signL (bit b)) = decide (a < b)
  gt : decide (signL (bit b) < signL (bit a)) = decide (b < a)
  letter : ∀ c ∈ [114, 119, 120], ((((counted (signL (bit a)) (signL (bit b))).filter (fun r => r.2.2 == c)).map (fun r => (r.1 : Int) - (r.2.1 : Int))) ++ [0])[0]? =
    some ((((named (bit a) (bit b)).filter (fun k => sgc k == c)).length : Int) - (((named (bit b) (bit a)).filter (fun k => sgc k == c)).length : Int))

noncomputable def onPair (f : Str → Str → AV) : AV → AV
  | .tup [.str s, .str t] => f s t
  | _ => .none
noncomputable def onStr {α : Type} (d : α) (f : Str → α) : AV → α
  | .str s => f s
  | _ => d
noncomputable def onRow {α : Type} (d : α) (f : Int → Int → Str → α) : AV → α
  | .tup [.int a, .int b, .str s] => f a b s
  | _ => d
theorem zip_sx (l m : List Nat) : zipd (signs (sx l)) (signs (sx m)) = (l.zip m).map fun x => .tup [.str (sx [x.1]), .str (sx [x.2])] := by
  rw [signs_sx, signs_sx, zipd, List.zip_map, List.map_map]; rfl
theorem map_txts {α : Type} (l : List α) (f : α → Str) : l.map (fun x => AV.str (f x)) = txts (l.map f) := (List.map_map ..).symm
theorem lst_strs (ss : List Str) : AV.lst (txts ss) = ofD (.list (ss.map .str)) := by rw [ofD, ofDs_strs]

theorem txts_twice (l : List Str) : (List.replicate (Int.toNat 2) (txts l)).flatten = txts (twice l) := by
  show (List.replicate 2 (txts l)).flatten = txts (List.replicate 2 l).flatten
  simp [List.replicate_succ, txts]
theorem twice_len (l : List Str) : (twice l).length = 2 * l.length := by simp [twice, List.replicate_succ]; omega
theorem fst0_len (a : Int) : (fst0 a).length ≤ 9 := by rw [fst0, nms, List.length_map]; exact named_len _ _
theorem txts_ends (l : List Str) : txts (dup l) ++ [.str (Str.ofString "~")] = txts (ends l) := by
  rw [ends, txts_append, show Str.ofString "~" = lastS from by decide +kernel]; rfl
noncomputable abbrev listD (ss : List Str) : PyData := .list (ss.map .str)
theorem two_lists (s t : List Str) : AV.tup [.lst (txts s), .lst (txts t)] = ofD (.tuple [listD s, listD t]) := by
  simp only [ofD, ofDs, ofDs_strs]
theorem two_nice {s t : List Str} (hs : ∀ x ∈ s, PyData.strOk x = true) (ht : ∀ x ∈ t, PyData.strOk x = true) : nice (.tuple [listD s, listD t]) = true := by
  simp only [nice, nices, nices_strs s hs, nices_strs t ht, Bool.and_self]
theorem getD_ok {l : List Str} (h : ∀ x ∈ l, PyData.strOk x = true) (k : Nat) : PyData.strOk (l.getD k ⟨#[]⟩) = true := by
  rw [List.getD_eq_getElem?_getD]
  cases e : l[k]? with
  | none => decide +kernel
  | some x => exact h x (List.mem_of_getElem? e)
theorem more1_ok {l m : List Str} (h : ∀ x ∈ l, PyData.strOk x = true) : ∀ x ∈ more1 l m, PyData.strOk x = true := fun x hx => by
  obtain ⟨k, _, rfl⟩ := List.mem_map.mp hx; exact getD_ok h k
theorem more2_ok {l m : List Str} (h : ∀ x ∈ m, PyData.strOk x = true) : ∀ x ∈ more2 l m, PyData.strOk x = true := fun x hx => by
  obtain ⟨k, _, rfl⟩ := List.mem_map.mp hx; exact getD_ok h k
theorem twice_ok {l : List Str} (h : ∀ x ∈ l, PyData.strOk x = true) : ∀ x ∈ twice l, PyData.strOk x = true := fun x hx => by
  simp [twice, List.replicate_succ] at hx; exact h x hx
theorem two_depth (s t : List Str) : (PyData.tuple [listD s, listD t]).depth ≤ 64 := by
  have h1 := strs_depth s
  have h2 := strs_depth t
  simp [PyData.depth, PyData.depthAll] at h1 h2 ⊢
  omega

theorem pat_exp {one two : List Nat} (h : ∀ c ∈ one, Plain4 c) : (patL one two).map (fun c => sx (piece c)) = (expL one two).map sx := by
  rw [patL, expL, List.map_map, List.map_map]
  refine List.map_congr_left fun x hx => ?_
  have h1 := h x.1 (List.of_mem_zip hx).1
  have n63 : x.1 ≠ 63 := by rcases h1 with e | e | e | e <;> rw [e] <;> decide
  show sx (piece (if x.1 = x.2 then x.1 else 63)) = sx (if x.1 = x.2 then esc1 x.1 else [46])
  by_cases e : x.1 = x.2
  · rw [if_pos e, if_pos e, piece, if_neg n63]
  · rw [if_neg e, if_neg e, piece, if_pos rfl]
theorem pat_plain {one two : List Nat} (h : ∀ c ∈ one, Plain4 c) : ∀ c ∈ patL one two, c = 63 ∨ Plain4 c := fun c hc => by
  obtain ⟨x, hx, rfl⟩ := List.mem_map.mp hc
  split
  · exact .inr (h _ (List.of_mem_zip hx).1)
  · exact .inl rfl
theorem pat_len (one two : List Nat) : (patL one two).length ≤ one.length := by rw [patL, List.length_map, List.length_zip]; omega
theorem exp_ok {one two : List Nat} (h : ∀ c ∈ one, Plain4 c) : ∀ s ∈ (expL one two).map sx, PyData.strOk s = true := fun s hs => by
  obtain ⟨l, hl, rfl⟩ := List.mem_map.mp hs
  obtain ⟨x, hx, rfl⟩ := List.mem_map.mp hl
  have h1 := (h x.1 (List.of_mem_zip hx).1).lt
  refine sx_ok fun c hc => ?_
  split at hc
  · unfold esc1 at hc
    split at hc
    · simp at hc; rcases hc with rfl | rfl <;> decide
    · simp at hc; rw [hc]; exact h1
  · simp at hc; rw [hc]; decide
theorem dot_count (one two : List Nat) (h : ∀ c ∈ one, Plain4 c) : (((expL one two).map sx).filter fun s => s == sx [46]).length = ((patL one two).filter isDot).length := by
  rw [expL, patL, List.map_map, List.filter_map, List.filter_map, List.length_map, List.length_map]
  congr 1
  refine List.filter_congr fun x hx => ?_
  have h1 := h x.1 (List.of_mem_zip hx).1
  show (sx (if x.1 = x.2 then esc1 x.1 else [46]) == sx [46]) = isDot (if x.1 = x.2 then x.1 else 63)
  by_cases e : x.1 = x.2
  · rw [if_pos e, if_pos e]
    rcases h1 with q | q | q | q <;> rw [q] <;> decide +kernel
  · rw [if_neg e, if_neg e]; decide +kernel

theorem map_pairs (l m : List Nat) (g : Str → Str → AV) : (((l.zip m).map fun x => AV.tup [.str (sx [x.1]), .str (sx [x.2])]).filter fun _ => true).map (onPair g) = (l.zip m).map fun x => g (sx [x.1]) (sx [x.2]) := by
  rw [List.filter_eq_self.mpr fun _ _ => rfl, List.map_map]; rfl
theorem pat_comp (l m : List Nat) : ((l.zip m).map fun x => AV.str (if (sx [x.1] == sx [x.2]) = true then sx [x.1] else sx [63])) = txts ((patL l m).map fun c => sx [c]) := by
  rw [patL, List.map_map, ← map_txts]
  refine List.map_congr_left fun x _ => ?_
  rw [sx1_eq]
  by_cases e : x.1 = x.2 <;> simp [e]
theorem exp_comp (l m : List Nat) : ((l.zip m).map fun x => AV.str (if (sx [x.1] != sx [x.2]) = true then sx [46] else if (sx [x.1] == sx [45]) = true then sx [92, 45] else sx [x.1])) = txts ((expL l m).map sx) := by
  rw [expL, List.map_map, ← map_txts]
  refine List.map_congr_left fun x _ => ?_
  rw [bne, sx1_eq, sx1_eq]
  show _ = AV.str (sx (if x.1 = x.2 then esc1 x.1 else [46]))
  by_cases e : x.1 = x.2
  · rw [if_pos e, esc1, beq_iff_eq.mpr e, if_neg (by decide)]
    by_cases f : x.1 = 45
    · rw [beq_iff_eq.mpr f, if_pos rfl, if_pos f]
    · rw [beq_eq_false_iff_ne.mpr f, if_neg (by decide), if_neg f]
  · rw [if_neg e, beq_eq_false_iff_ne.mpr e, if_pos (by decide)]
noncomputable def tupOf : AV → AV
  | .mis _ l => .tup l
  | _ => .none
theorem tup_rows (C : Addr) (l : List Row3) : ((l.map (misA C)).filter fun _ => true).map tupOf = l.map rowA := by
  rw [List.filter_eq_self.mpr fun _ _ => rfl, List.map_map]; rfl
noncomputable def firstIs (c : Nat) (s : Str) : Bool := s.cps[0]? == some c
theorem first_names (l : List Nat) (c : Nat) : (((txts (nms l)).filter (onStr false (firstIs c))).map fun y => y).length = (l.filter fun k => sgc k == c).length := by
  rw [List.length_map, txts, List.filter_map, List.length_map, nms, List.filter_map, List.length_map]
  congr 1
theorem row_vals (l : List Row3) (c : Nat) : ((l.map rowA).filter (onRow false fun _ _ s => s == sx [c])).map (onRow .none fun a b _ => .int (a - b)) = ((l.filter fun r => r.2.2 == c).map fun r => (r.1 : Int) - (r.2.1 : Int)).map AV.int := by
  rw [List.filter_map, List.map_map, List.map_map]
  have e : ((onRow false fun _ _ s => s == sx [c]) ∘ rowA) = fun r : Row3 => r.2.2 == c := by
    funext r; exact sx1_eq _ _
  rw [e]; rfl
theorem dots_len (l : List Str) : (((txts l).filter (onStr false fun s => s == sx [46])).map fun y => y).length = (l.filter fun s => s == sx [46]).length := by
  rw [List.length_map, txts, List.filter_map, List.length_map]; rfl
section
variable {w : World} {B : GB} {A : Around} {H : HP} {gl : Str → Option Value} {D : Ad} {P : AV → HP → Prop}
theorem c_right (W : Wo w B.heap gl D) (R : Rm A 5) (Fa : FrA A B) {a b : Int} (hH : ∀ q ∈ H, tfs q.2 = true) (K : RightOK a b) (p : P (.bool true) H) : CF PG w B A H [.int a, .int b] D.right P := by
  refine cf_fn (ns := ["a", "b"]) W W.right.2 R (fun name qual doc pm an cdv ct L hL => ?_) (fun _ _ _ _ _ _ _ vs h => ?_) (by decide)
  · intro env A' B' W R'
    have Fb : FrA A' B' :=
      Fa.deeper (show ScopeKind.function ≠ ScopeKind.module by decide) rfl hL
    have hu := R'.units
    obtain ⟨ma, mb, d01, d10, ul, dots, klt, kgt, kletter⟩ := K
    have la := signL_len (bit a)
    have lb := signL_len (bit b)
    -- one, two
    refine st_cons' ?_
    intro K
    refine sx_tuple2 R'.hh (ex_tuple (el_cons ?_))
    refine ex_callG W W.fmode ?_
    refine el_cons (ex_binop (ex_int (ex_local rfl rfl (op_add (el_nil (c_filemode W (R'.less (by decide)) ?_))))))
    refine el_cons ?_
    refine ex_callG W W.fmode ?_
    refine el_cons (ex_binop (ex_int (ex_local rfl rfl (op_add (el_nil (c_filemode W (R'.less (by decide)) ?_))))))
    rw [ma, mb]
    refine el_nil ⟨Nat.le_of_ble_eq_true rfl, _, _, rfl, as_bind (as_local rfl (as_bind (as_local rfl ?_)))⟩
    -- the signs
    refine st_cons' ?_
    intro K
    refine sx_if (tx_cmp1 (ex_list (el_cons (ex_local rfl rfl (el_cons (ex_local rfl rfl (el_nil ⟨Nat.le_of_ble_eq_true rfl, ?_⟩)))))))
    refine ex_list (el_cons ?_)
    refine ex_callG W W.signs ?_
    refine el_cons (ex_local rfl rfl (el_nil (c_signs W (R'.less (by decide)) ?_)))
    refine el_cons ?_
    refine ex_callG W W.signs ?_
    refine el_cons (ex_local rfl rfl (el_nil (c_signs W (R'.less (by decide)) ?_)))
    have okA : PyData.strOk (sx (signL (bit a))) = true := sx_ok fun c hc => (signL_plain hc).lt
    have okB : PyData.strOk (sx (signL (bit b))) = true := sx_ok fun c hc => (signL_plain hc).lt
    have ok2 : nice (.list [.str (sx (signL (bit a))), .str (sx (signL (bit b)))]) = true := by simp [nice, nices, okA, okB]
    refine el_nil ⟨Nat.le_of_ble_eq_true rfl, op_neD (da := .list [.str (sx (signL (bit a))), .str (sx (signL (bit b)))]) (db := .list [.str (sx (signL (bit a))), .str (sx (signL (bit b)))]) rfl rfl ok2 ok2 (by simp [PyData.depth, PyData.depthAll]) (by simp [PyData.depth, PyData.depthAll]) (by omega) ⟨_, rfl, ?_⟩⟩
    refine ifnot (by rw [same_self]; decide) ?_
    refine st_nil ?_
    -- first, second
    refine st_cons' ?_
    intro K
    refine sx_tuple2 R'.hh (ex_tuple (el_cons ?_))
    refine ex_callG W W.named ?_
    refine el_cons (ex_local rfl rfl (el_cons (ex_int (el_nil (c_named W (R'.less (by decide)) ?_)))))
    refine el_cons ?_
    refine ex_callG W W.named ?_
    refine el_cons (ex_local rfl rfl (el_cons (ex_int (el_nil (c_named W (R'.less (by decide)) ?_)))))
    refine el_nil ⟨Nat.le_of_ble_eq_true rfl, _, _, rfl, as_bind (as_local rfl (as_bind (as_local rfl ?_)))⟩
    -- due
    refine st_cons' ?_
    intro K
    refine sx_assign (ex_tuple (el_cons ?_))
    refine ex_callG W W.named ?_
    refine el_cons (ex_local rfl rfl (el_cons (ex_local rfl rfl (el_nil (c_named W (R'.less (by decide)) ?_)))))
    refine el_cons ?_
    refine ex_callG W W.named ?_
    refine el_cons (ex_local rfl rfl (el_cons (ex_local rfl rfl (el_nil (c_named W (R'.less (by decide)) ?_)))))
    refine el_nil ⟨Nat.le_of_ble_eq_true rfl, as_local rfl ?_⟩
    have nA : ∀ x ∈ nms (named (bit a) (bit b)), PyData.strOk x = true := nms_ok fun k hk => named_lt hk
    have nB : ∀ x ∈ nms (named (bit b) (bit a)), PyData.strOk x = true := nms_ok fun k hk => named_lt hk
    have l1 := fst0_len a
    have l2 := fst0_len b
    have t1 := twice_len (fst0 a)
    have t2 := twice_len (fst0 b)
    refine st_less (l₀ := [("a", .int a), ("b", .int b), ("one", .str (sx (signL (bit a)))), ("two", .str (sx (signL (bit b)))), ("first", .lst (txts (fst0 a))), ("second", .lst (txts (fst0 b))), ("due", .tup [.lst (txts (nms (named (bit a) (bit b)))), .lst (txts (nms (named (bit b) (bit a))))])])
      (Has.sub ⟨rfl, rfl, rfl, rfl, rfl, rfl, rfl, trivial⟩) ?_
    -- sorted_list_difference
    refine st_cons' ?_
    intro K
    refine sx_if (tx_cmp1 ?_)
    refine ex_callG W W.sld ?_
    refine el_cons (ex_binop ?_)
    refine ex_callBi (id := "sorted") W W.sorted rfl ?_
    refine el_cons (ex_binop (ex_local rfl rfl (ex_int (op_mull (by decide) (by decide) (by rw [List.length_map]; omega) ?_))))
    rw [txts_twice]
    refine el_nil (op_sorted rfl rfl (by omega) fun ss' hp hs => ?_)
    rw [sorted_is hp hs (dup_perm _) (dup_sorted (nms_sorted rfl))]
    refine ex_list (el_cons (ex_str (el_nil ⟨Nat.le_of_ble_eq_true rfl, op_addl ?_ ?_⟩)))
    · rw [List.length_map, (dup_perm _).length_eq]; show (twice (fst0 a)).length + 1 ≤ 1000; omega
    rw [txts_ends]
    refine el_cons (ex_binop ?_)
    refine ex_callBi (id := "sorted") W W.sorted rfl ?_
    refine el_cons (ex_binop (ex_local rfl rfl (ex_int (op_mull (by decide) (by decide) (by rw [List.length_map]; omega) ?_))))
    rw [txts_twice]
    refine el_nil (op_sorted rfl rfl (by omega) fun ss' hp hs => ?_)
    rw [sorted_is hp hs (dup_perm _) (dup_sorted (nms_sorted rfl))]
    refine ex_list (el_cons (ex_str (el_nil ⟨Nat.le_of_ble_eq_true rfl, op_addl ?_ ?_⟩)))
    · rw [List.length_map, (dup_perm _).length_eq]; show (twice (fst0 b)).length + 1 ≤ 1000; omega
    rw [txts_ends]
    refine el_nil (c_sld W (R'.less (by decide)) Fb nms_srt nms_srt (by omega) (by omega) ?_)
    rw [d01, d10]
    refine ex_local rfl rfl (op_neD (two_lists _ _) (two_lists _ _) (two_nice nA nB) (two_nice nA nB) (two_depth _ _) (two_depth _ _) (by omega) ⟨_, rfl, ?_⟩)
    refine ifnot (by rw [same_self]; decide) ?_
    refine st_nil ?_
    -- unorderable_list_difference
    refine st_cons' ?_
    intro K
    refine sx_if (tx_cmp1 ?_)
    refine ex_callG W W.uld ?_
    refine el_cons (ex_binop (ex_local rfl rfl (ex_int (op_mullT (by decide) (by decide) (by rw [List.length_map]; omega) fun e => ?_))))
    rw [txts_twice]
    refine el_cons (ex_sliceT (ex_local rfl rfl ⟨rfl, eo_none (eo_none (eo_none ⟨by simp, _, rfl, by rw [List.length_map]; omega, fun c => ?_⟩))⟩))
    rw [pick_all]
    refine el_nil (c_uld W (R'.less (by decide)) Fb (by omega) (by omega) ?_)
    rw [ul]
    refine ex_callG W W.more ?_
    refine el_cons (ex_binop (ex_local rfl rfl (ex_int (op_mull (by decide) (by decide) (by rw [List.length_map]; omega) ?_))))
    rw [txts_twice]
    refine el_cons (ex_local rfl rfl (el_nil (c_more W (R'.less (by decide)) (by omega) (by omega) ?_)))
    have oA : ∀ x ∈ fst0 a, PyData.strOk x = true := nms_ok fun k hk => named_lt hk
    have oB : ∀ x ∈ fst0 b, PyData.strOk x = true := nms_ok fun k hk => named_lt hk
    refine op_neD (two_lists _ _) (two_lists _ _) (two_nice (more1_ok (twice_ok oA)) (more2_ok oB)) (two_nice (more1_ok (twice_ok oA)) (more2_ok oB)) (two_depth _ _) (two_depth _ _) (by omega) ⟨_, rfl, ?_⟩
    refine ifnot (by rw [same_self]; decide) ?_
    refine st_nil ?_
    -- the pattern
    have pl : ∀ c ∈ signL (bit a), Plain4 c := fun c hc => signL_plain hc
    have hpl := pat_len (signL (bit a)) (signL (bit b))
    refine st_cons' ?_
    intro K
    refine sx_assign ?_
    refine ex_callG W W.trl ?_
    refine el_cons ?_
    refine ex_meth F.plainAttrs_str F.slot_str_join F.type_str_join (ex_str ⟨isT_str, el_cons ?_⟩)
    refine ex_comp (l₀ := []) (p := fun _ => true) (f := onPair fun s t => .str (if (s == t) = true then s else sx [63])) (soft := true) rfl (by decide) rfl (by decide) trivial ?_
    refine itx_callTy W W.zip rfl ?_
    refine el_cons (ex_local rfl rfl (el_cons (ex_local rfl rfl (el_nil (opi_zipStr R'.hh ?_)))))
    rw [zip_sx]
    refine ⟨_, fun _ _ => rfl, by rw [List.length_map, List.length_zip]; omega, fun _ => ⟨?_, fun x a e => (nomatch e), fun x hx => ?_⟩, fun x hx C D acc hacc => ?_, ?_⟩
    · exact hH
    · obtain ⟨y, hy, rfl⟩ := List.mem_map.mp hx
      rfl
    · obtain ⟨y, hy, rfl⟩ := List.mem_map.mp hx
      refine as_tuple2 R'.hh (as_bind (as_local rfl (as_bind (as_local rfl ⟨rfl, fun _ _ e => (nomatch e), ts_nil ⟨rfl, rfl, fun _ => ?_⟩⟩))))
      refine ex_ifexp (tx_cmp1 (ex_local rfl rfl (ex_local rfl rfl (op_eqs ⟨_, rfl, ?_⟩))))
      by_cases e : (sx [y.1] == sx [y.2]) = true
      · (first | refine ifyes e ?_ | rw [if_pos e])
        refine ex_local rfl rfl ⟨rfl, ?_⟩
        simp only [onPair, if_pos e]
      · (first | refine ifnot e ?_ | rw [if_neg e])
        refine ex_str ⟨rfl, ?_⟩
        simp only [onPair, if_neg e]
        rfl
    rw [map_pairs, pat_comp]
    refine el_nil ⟨isT_str, op_join rfl rfl ?_ ?_⟩
    · rw [sum_ones, show (Str.ofString "").length = 0 from by decide +kernel]; omega
    rw [join_nil]
    refine el_cons (ex_none (el_cons (ex_str (el_nil ?_))))
    rw [show Str.ofString "." = sx [46] from by decide +kernel]
    refine c_trl W (R'.less (by decide)) (by omega) (pat_plain pl) (as_local rfl ?_)
    rw [pat_exp pl]
    have eok := exp_ok (two := signL (bit b)) pl
    have hel : (expL (signL (bit a)) (signL (bit b))).length ≤ 10 := by rw [expL, List.length_map, List.length_zip]; omega
    have hdot := dot_count (signL (bit a)) (signL (bit b)) pl
    -- the pieces
    refine st_cons' ?_
    intro K
    refine sx_if (tx_cmp1 (ex_local rfl rfl ?_))
    refine ex_comp (l₀ := []) (p := fun _ => true) (f := onPair fun s t => .str (if (s != t) = true then sx [46] else if (s == sx [45]) = true then sx [92, 45] else s)) (soft := true) rfl (by decide) rfl (by decide) trivial ?_
    refine itx_callTy W W.zip rfl ?_
    refine el_cons (ex_local rfl rfl (el_cons (ex_local rfl rfl (el_nil (opi_zipStr R'.hh ?_)))))
    rw [zip_sx]
    refine ⟨_, fun _ _ => rfl, by rw [List.length_map, List.length_zip]; omega, fun _ => ⟨hH, fun x a e => (nomatch e), fun x hx => ?_⟩, fun x hx C D acc hacc => ?_, ?_⟩
    · obtain ⟨y, hy, rfl⟩ := List.mem_map.mp hx
      rfl
    · obtain ⟨y, hy, rfl⟩ := List.mem_map.mp hx
      refine as_tuple2 R'.hh (as_bind (as_local rfl (as_bind (as_local rfl ⟨rfl, fun _ _ e => (nomatch e), ts_nil ⟨rfl, rfl, fun _ => ?_⟩⟩))))
      refine ex_ifexp (tx_cmp1 (ex_local rfl rfl (ex_local rfl rfl (op_nes ⟨_, rfl, ?_⟩))))
      by_cases e : (sx [y.1] != sx [y.2]) = true
      · (first | refine ifyes e ?_ | rw [if_pos e])
        refine ex_str ⟨rfl, ?_⟩
        simp only [onPair, if_pos e]
        rw [show Str.ofString "." = sx [46] from by decide +kernel]
      · (first | refine ifnot e ?_ | rw [if_neg e])
        refine ex_ifexp (tx_cmp1 (ex_local rfl rfl (ex_str (op_eqs ⟨_, rfl, ?_⟩))))
        rw [show Str.ofString "-" = sx [45] from by decide +kernel]
        by_cases f : (sx [y.1] == sx [45]) = true
        · (first | refine ifyes f ?_ | rw [if_pos f])
          refine ex_str ⟨rfl, ?_⟩
          simp only [onPair, if_neg e, if_pos f]
          rw [show Str.ofString "\\-" = sx [92, 45] from by decide +kernel]
        · (first | refine ifnot f ?_ | rw [if_neg f])
          refine ex_local rfl rfl ⟨rfl, ?_⟩
          simp only [onPair, if_neg e, if_neg f]
    rw [map_pairs, exp_comp]
    refine op_neD (lst_strs _) (lst_strs _) (by rw [nice]; exact nices_strs _ eok) (by rw [nice]; exact nices_strs _ eok) (Nat.le_trans (strs_depth _) (by decide)) (Nat.le_trans (strs_depth _) (by decide)) (by omega) ⟨_, rfl, ?_⟩
    refine ifnot (by rw [same_self]; decide) ?_
    refine st_nil ?_
    -- as many dots as names told
    refine st_cons' ?_
    intro K
    refine sx_if (tx_cmp1 ?_)
    refine ex_callBi (id := "len") W W.len rfl ?_
    refine el_cons ?_
    refine ex_comp (l₀ := []) (p := onStr false fun s => s == sx [46]) (f := fun y => y) (soft := false) rfl (by decide) rfl (by decide) trivial ?_
    refine itx_value (ex_local rfl rfl (itr_list R'.hh rfl (fun _ e => (nomatch e)) ?_))
    refine ⟨_, fun _ _ => rfl, by rw [List.length_map, List.length_map]; omega, fun h => (nomatch h), fun x hx C D acc hacc => ?_, ?_⟩
    · obtain ⟨s, hs, rfl⟩ := List.mem_map.mp hx
      refine as_name (as_local rfl ⟨rfl, fun _ _ e => (nomatch e), ts_one (tx_cmp1 (ex_local rfl rfl (ex_str (op_eqs ⟨_, rfl, rfl, ?_, fun _ => ex_local rfl rfl ⟨rfl, rfl⟩⟩))))⟩)
      rfl
    refine el_nil (op_lenL rfl rfl ?_ ?_)
    · rw [dots_len, hdot, dots]
      have := named_len (bit a) (bit b)
      have := named_len (bit b) (bit a)
      omega
    rw [dots_len, hdot, dots]
    refine ex_binop ?_
    refine ex_callBi (id := "len") W W.len rfl ?_
    refine el_cons (ex_item item_tuple (ex_local rfl rfl (ex_int ⟨isT_tup, op_itemT (by decide) (by decide) rfl (el_nil (op_lenL rfl rfl (by rw [List.length_map, nms, List.length_map]; have := named_len (bit a) (bit b); omega) ?_))⟩)))
    refine ex_callBi (id := "len") W W.len rfl ?_
    refine el_cons (ex_item item_tuple (ex_local rfl rfl (ex_int ⟨isT_tup, op_itemT (by decide) (by decide) rfl (el_nil (op_lenL rfl rfl (by rw [List.length_map, nms, List.length_map]; have := named_len (bit b) (bit a); omega) (op_add (op_ne ⟨_, rfl, ?_⟩))))⟩)))
    refine ifnot (by rw [List.length_map, nms, List.length_map, List.length_map, nms, List.length_map]; simp) ?_
    refine st_nil ?_
    -- three_way_cmp
    refine st_cons' ?_
    intro K
    refine sx_if (tx_or2 (tx_cmp1 ?_))
    refine ex_callG W W.cmp ?_
    refine el_cons (ex_local rfl rfl (el_cons (ex_local rfl rfl (el_nil (c_cmpS W (R'.less (by decide)) ?_)))))
    rw [klt, kgt]
    refine ex_binop (ex_cmp1 (ex_local rfl rfl (ex_local rfl rfl (op_gt (ex_cmp1 (ex_local rfl rfl (ex_local rfl rfl (op_lt (op_subb (op_ne ⟨_, rfl, ?_⟩)))))))))) 
    (first | refine ifnot (by simp) ?_ | rw [if_neg (by simp)])
    refine tx_cmp1 ?_
    refine ex_callG W W.cmp ?_
    refine el_cons (ex_local rfl rfl (el_cons (ex_local rfl rfl (el_nil (c_cmpI W (R'.less (by decide)) ?_)))))
    refine ex_binop (ex_cmp1 (ex_local rfl rfl (ex_local rfl rfl (op_gt (ex_cmp1 (ex_local rfl rfl (ex_local rfl rfl (op_lt (op_subb (op_ne ⟨_, rfl, ?_⟩)))))))))) 
    (first | refine ifnot (by simp) ?_ | rw [if_neg (by simp)])
    refine st_nil ?_
    -- told
    refine st_cons' ?_
    intro K
    refine sx_assignComp (l₀ := []) (p := fun _ => true) (f := tupOf) (soft := false) rfl (by decide) rfl (by decide) trivial rfl ?_
    refine itx_value ?_
    refine ex_callG W W.cdp ?_
    refine el_cons (ex_local rfl rfl (el_cons (ex_local rfl rfl (el_nil (c_cdp W (R'.less (by decide)) (by omega) (by omega) (itr_list R'.hh rfl (fun _ e => (nomatch e)) ?_))))))
    have hct : (counted (signL (bit a)) (signL (bit b))).length ≤ 20 := by
      have := cfold_len (signL (bit a)) (signL (bit b)) (signL (bit a) ++ signL (bit b)) []
      rw [List.length_append, List.length_nil] at this
      unfold counted; omega
    refine ⟨_, fun _ _ => rfl, by rw [List.length_map]; omega, fun h => (nomatch h), fun x hx C E acc hacc => ?_, ?_⟩
    · obtain ⟨r, hr, rfl⟩ := List.mem_map.mp hx
      refine as_name (as_local rfl ⟨rfl, fun _ _ e => (nomatch e), ts_nil ⟨rfl, rfl, fun _ => ?_⟩⟩)
      refine ex_callTy W W.tuple rfl ?_
      exact el_cons (ex_local rfl rfl (el_nil (op_tupleMis R'.hh W.mis.2.1.toMisC (Nat.le_of_ble_eq_true rfl) (by simp) ⟨rfl, rfl⟩)))
    rw [tup_rows]
    have hb1 : ∀ c ∈ signL (bit a), c < 128 := fun c hc => (signL_plain hc).lt
    have hb2 : ∀ c ∈ signL (bit b), c < 128 := fun c hc => (signL_plain hc).lt
    have hcm : ∀ r ∈ counted (signL (bit a)) (signL (bit b)), r.2.2 < 128 := cfold_mem _ _ _ [] (fun _ h => nomatch h) fun d hd => (List.mem_append.mp hd).elim (hb1 d) (hb2 d)
    refine st_cons' ?_
    intro K
    refine sx_if (tx_cmp1 (ex_local rfl rfl ?_))
    refine ex_callG W W.counted ?_
    refine el_cons (ex_local rfl rfl (el_cons (ex_local rfl rfl (el_nil (c_counted W (R'.less (by decide)) (by omega) (by omega) hb1 hb2 ?_)))))
    have e3 : AV.lst ((counted (signL (bit a)) (signL (bit b))).map rowA) = ofD (.list ((counted (signL (bit a)) (signL (bit b))).map rowD)) := by rw [ofD, ofDs_rows]
    refine op_neD e3 e3 (by rw [nice]; exact rows_nice _ hcm) (by rw [nice]; exact rows_nice _ hcm) (Nat.le_trans (rows_depth _) (by decide)) (Nat.le_trans (rows_depth _) (by decide)) (by omega) ⟨_, rfl, ?_⟩
    refine ifnot (by rw [same_self]; decide) ?_
    refine st_nil ?_
    -- the letters
    refine st_cons' ?_
    intro K
    refine sx_for (n := 3) ?_
    refine itx_value (ex_str (itr_str R'.hh ?_))
    let Inv : Nat → Loc → HP → Prop := fun i l' H' => i ≤ 3 ∧ Sub [("due", .tup [.lst (txts (nms (named (bit a) (bit b)))), .lst (txts (nms (named (bit b) (bit a))))]), ("told", .lst ((counted (signL (bit a)) (signL (bit b))).map rowA))] l' ∧ H' = H
    refine ⟨Inv, ⟨by decide, Has.sub ⟨rfl, rfl, trivial⟩, rfl⟩, ?_⟩
    rintro i l' H' ⟨hi, hs, rfl⟩
    have e4 : signs (Str.ofString "rwx") = [114, 119, 120].map fun c => .str (sx [c]) := by
      rw [show Str.ofString "rwx" = sx [114, 119, 120] from by decide +kernel]; exact signs_sx _
    refine ⟨_, rfl, ?_, hi, fun x hx => ?_, fun hi => ?_⟩
    · show (signs (Str.ofString "rwx")).length = 3
      rw [e4]; rfl
    · have hx : (signs (Str.ofString "rwx"))[i]? = some x := hx
      rw [e4, List.getElem?_map] at hx
      obtain ⟨c, hc, rfl⟩ := Option.map_eq_some_iff.mp hx
      have hi' : i < 3 := (List.getElem?_eq_some_iff.mp hc).1
      have hc := List.mem_of_getElem? hc
      have kl := kletter c hc
      have nl1 := named_len (bit a) (bit b)
      have nl2 := named_len (bit b) (bit a)
      refine as_less hs (as_name (as_cell rfl ?_))
      refine st_cons' ?_
      intro K
      refine sx_assign (ex_binop ?_)
      refine ex_callBi (id := "len") W W.len rfl ?_
      refine el_cons ?_
      refine ex_comp (l₀ := [("letter", .str (sx [c]))]) (p := onStr false (firstIs c)) (f := fun y => y) (soft := false) rfl (by decide) rfl (by decide) ⟨⟨rfl, rfl, rfl, rfl⟩, trivial⟩ ?_
      refine itx_value (ex_item item_tuple (ex_local rfl rfl (ex_int ⟨isT_tup, op_itemT (by decide) (by decide) rfl (itr_list R'.hh rfl (fun _ e => (nomatch e)) ?_)⟩)))
      refine ⟨_, fun _ _ => rfl, by rw [List.length_map, nms, List.length_map]; omega, fun h => (nomatch h), fun x hx C D acc hacc => ?_, ?_⟩
      · obtain ⟨s, hs, rfl⟩ := List.mem_map.mp hx
        obtain ⟨k, hk, rfl⟩ := List.mem_map.mp hs
        refine as_name (as_local rfl ⟨rfl, Sub.put (Sub.refl _) rfl, ts_one (tx_cmp1 ?_)⟩)
        refine ex_item item_str (ex_local rfl rfl (ex_int ⟨isT_str, op_itemS (c := sgc k) (by decide) (by simp [sx, nm]) (by rw [sx_length]; exact Nat.le_of_ble_eq_true rfl) (ex_cell rfl rfl (op_eqs ⟨_, rfl, rfl, ?_, fun _ => ex_local rfl rfl ⟨rfl, rfl⟩⟩))⟩))
        show (sx [sgc k] == sx [c]) = firstIs c (sx (nm k))
        rw [sx1_eq, firstIs]; simp [sx, nm]
      refine el_nil (op_lenL rfl rfl (by rw [first_names]; exact Nat.le_trans (List.length_filter_le ..) (by omega)) ?_)
      rw [first_names]
      refine ex_callBi (id := "len") W W.len rfl ?_
      refine el_cons ?_
      refine ex_comp (l₀ := [("letter", .str (sx [c]))]) (p := onStr false (firstIs c)) (f := fun y => y) (soft := false) rfl (by decide) rfl (by decide) ⟨⟨rfl, rfl, rfl, rfl⟩, trivial⟩ ?_
      refine itx_value (ex_item item_tuple (ex_local rfl rfl (ex_int ⟨isT_tup, op_itemT (by decide) (by decide) rfl (itr_list R'.hh rfl (fun _ e => (nomatch e)) ?_)⟩)))
      refine ⟨_, fun _ _ => rfl, by rw [List.length_map, nms, List.length_map]; omega, fun h => (nomatch h), fun x hx C D acc hacc => ?_, ?_⟩
      · obtain ⟨s, hs, rfl⟩ := List.mem_map.mp hx
        obtain ⟨k, hk, rfl⟩ := List.mem_map.mp hs
        refine as_name (as_local rfl ⟨rfl, Sub.put (Sub.refl _) rfl, ts_one (tx_cmp1 ?_)⟩)
        refine ex_item item_str (ex_local rfl rfl (ex_int ⟨isT_str, op_itemS (c := sgc k) (by decide) (by simp [sx, nm]) (by rw [sx_length]; exact Nat.le_of_ble_eq_true rfl) (ex_cell rfl rfl (op_eqs ⟨_, rfl, rfl, ?_, fun _ => ex_local rfl rfl ⟨rfl, rfl⟩⟩))⟩))
        show (sx [sgc k] == sx [c]) = firstIs c (sx (nm k))
        rw [sx1_eq, firstIs]; simp [sx, nm]
      refine el_nil (op_lenL rfl rfl (by rw [first_names]; exact Nat.le_trans (List.length_filter_le ..) (by omega)) ?_)
      rw [first_names]
      refine op_sub (as_local rfl ?_)
      refine st_cons' ?_
      intro K
      refine sx_if (tx_cmp1 ?_)
      refine ex_item item_list (ex_binop ?_)
      refine ex_comp (l₀ := [("letter", .str (sx [c]))]) (p := onRow false fun _ _ s => s == sx [c]) (f := onRow .none fun a b _ => .int (a - b)) (soft := false) rfl (by decide) rfl (by decide) ⟨⟨rfl, rfl, rfl, rfl⟩, trivial⟩ ?_
      refine itx_value (ex_local rfl rfl (itr_list R'.hh rfl (fun _ e => (nomatch e)) ?_))
      refine ⟨_, fun _ _ => rfl, by rw [List.length_map]; omega, fun h => (nomatch h), fun x hx C D acc hacc => ?_, ?_⟩
      · obtain ⟨r, hr, rfl⟩ := List.mem_map.mp hx
        refine as_name (as_local rfl ⟨rfl, Sub.put (Sub.refl _) rfl, ts_one (tx_cmp1 ?_)⟩)
        refine ex_item item_tuple (ex_local rfl rfl (ex_int ⟨isT_tup, op_itemT (by decide) (by decide) rfl (ex_cell rfl rfl (op_eqs ⟨_, rfl, rfl, rfl, fun _ => ?_⟩))⟩))
        refine ex_binop (ex_item item_tuple (ex_local rfl rfl (ex_int ⟨isT_tup, op_itemT (by decide) (by decide) rfl ?_⟩)))
        exact ex_item item_tuple (ex_local rfl rfl (ex_int ⟨isT_tup, op_itemT (by decide) (by decide) rfl (op_sub ⟨rfl, rfl⟩)⟩))
      rw [row_vals]
      refine ex_list (el_cons (ex_int (el_nil ⟨Nat.le_of_ble_eq_true rfl, op_addl ?_ ?_⟩)))
      · rw [List.length_map, List.length_map]
        have := List.length_filter_le (fun r : Row3 => r.2.2 == c) (counted (signL (bit a)) (signL (bit b)))
        show _ + 1 ≤ 1000
        omega
      refine ex_int ⟨isT_lst, op_itemL rfl rfl (by decide) (by decide) (a := .int ((((named (bit a) (bit b)).filter (fun k => sgc k == c)).length : Int) - (((named (bit b) (bit a)).filter (fun k => sgc k == c)).length : Int))) ?_ (ex_local rfl rfl (op_ne ⟨_, rfl, ?_⟩))⟩
      · have := congrArg (Option.map AV.int) kl
        rw [← List.getElem?_map, List.map_append] at this
        exact this
      (first | refine ifnot (by simp) ?_ | rw [if_neg (by simp)])
      exact st_nil (st_nil ⟨hi', Has.sub ⟨rfl, rfl, trivial⟩, rfl⟩)
    · exact st_nil (st_cons (sx_return (ex_bool p)))
  · obtain ⟨a, b, rfl⟩ := two_args h; rfl
end
end Mine
namespace Mine
open PySem PySem.Calls PyProof.Rows PySem.Spec PySem.SeqAt

-- the bits of a number
noncomputable def nb (n k : Nat) : Bool := n / 2 ^ (8 - k) % 2 == 1
theorem bit_nat (n k : Nat) : bit (n : Int) k = nb n k := by
  unfold bit nb
  have e : ((2 : Int) ^ (8 - k)) = ((2 ^ (8 - k) : Nat) : Int) := by simp
  rw [e, Int.fdiv_eq_ediv_of_nonneg _ (Int.natCast_nonneg _), Int.fmod_eq_emod_of_nonneg _ (by decide)]
  rw [show ((n : Int) / ((2 ^ (8 - k) : Nat) : Int)) % 2 = ((n / 2 ^ (8 - k) % 2 : Nat) : Int) by omega]
  rw [Bool.eq_iff_iff, beq_iff_eq, beq_iff_eq]
  omega
theorem band_nat (m b : Nat) : Builtin.bitAnd (m : Int) (b : Int) = ((m &&& b : Nat) : Int) := by
  unfold Builtin.bitAnd
  simp

-- the mode's signs
theorem rows_nat (n : Nat) (hn : n < 512) : ((32768 + n) &&& 61440 = 32768) ∧ ((32768 + n) &&& 2112 == 2112) = false ∧ ((32768 + n) &&& 2048 == 2048) = false ∧ ((32768 + n) &&& 1032 == 1032) = false ∧ ((32768 + n) &&& 1024 == 1024) = false ∧
    ((32768 + n) &&& 513 == 513) = false ∧ ((32768 + n) &&& 512 == 512) = false := by
  revert n
  decide +kernel
theorem bits_nat (n : Nat) (hn : n < 512) : ∀ k, k < 9 → ((32768 + n) &&& 2 ^ (8 - k) == 2 ^ (8 - k)) = nb n k := by
  revert n
  decide +kernel
theorem modeL_nat (n : Nat) (hn : n < 512) : modeL (32768 + (n : Int)) = signL (bit (n : Int)) := by
  obtain ⟨r0, r1, r2, r3, r4, r5, r6⟩ := rows_nat n hn
  have b := bits_nat n hn
  have e : (32768 + (n : Int)) = ((32768 + n : Nat) : Int) := by omega
  have hit (i b : Nat) (c : Nat) (hi : i ≠ 0) : rowHit i (32768 + (n : Int)) ((b : Int), c) = ((32768 + n) &&& b == b) := by
    unfold rowHit
    rw [if_neg hi, e, band_nat]
    rw [Bool.eq_iff_iff, beq_iff_eq, beq_iff_eq]
    exact Int.ofNat_inj
  have one (i b c : Nat) (hi : i ≠ 0) : rowSign i (32768 + (n : Int)) [((b : Int), c)] = if ((32768 + n) &&& b == b) = true then c else 45 := by
    unfold rowSign
    rw [List.find?_cons, hit i b c hi]
    cases ((32768 + n) &&& b == b) <;> simp [hi]
  have three (i b1 b2 b c1 c2 c : Nat) (hi : i ≠ 0) (h1 : ((32768 + n) &&& b1 == b1) = false) (h2 : ((32768 + n) &&& b2 == b2) = false) :
      rowSign i (32768 + (n : Int)) [((b1 : Int), c1), ((b2 : Int), c2), ((b : Int), c)] = if ((32768 + n) &&& b == b) = true then c else 45 := by
    unfold rowSign
    rw [List.find?_cons, hit i b1 c1 hi, h1, List.find?_cons, hit i b2 c2 hi, h2, List.find?_cons, hit i b c hi]
    cases ((32768 + n) &&& b == b) <;> simp [hi]
  have zero : rowSign 0 (32768 + (n : Int)) [(40960, 108), (49152, 115), (32768, 45), (24576, 98), (16384, 100), (8192, 99), (4096, 112)] = 45 := by
    unfold rowSign
    have h (p : Int × Nat) : rowHit 0 (32768 + (n : Int)) p = ((32768 : Int) == p.1) := by
      unfold rowHit
      rw [if_pos rfl, e, show (61440 : Int) = ((61440 : Nat) : Int) from rfl, band_nat, r0]; rfl
    simp only [List.find?_cons, h]
    rfl
  have sb (k : Nat) : bit (n : Int) k = nb n k := bit_nat n k
  show [rowSign 0 _ _, rowSign 1 _ _, rowSign 2 _ _, rowSign 3 _ _, rowSign 4 _ _, rowSign 5 _ _, rowSign 6 _ _, rowSign 7 _ _, rowSign 8 _ _, rowSign 9 _ _] = _
  rw [zero, show rowSign 1 _ [((256 : Int), 114)] = _ from one 1 256 114 (by decide), show rowSign 2 _ [((128 : Int), 119)] = _ from one 2 128 119 (by decide),
    show rowSign 3 _ [((2112 : Int), 115), ((2048 : Int), 83), ((64 : Int), 120)] = _ from three 3 2112 2048 64 115 83 120 (by decide) r1 r2,
    show rowSign 4 _ [((32 : Int), 114)] = _ from one 4 32 114 (by decide), show rowSign 5 _ [((16 : Int), 119)] = _ from one 5 16 119 (by decide),
    show rowSign 6 _ [((1032 : Int), 115), ((1024 : Int), 83), ((8 : Int), 120)] = _ from three 6 1032 1024 8 115 83 120 (by decide) r3 r4,
    show rowSign 7 _ [((4 : Int), 114)] = _ from one 7 4 114 (by decide), show rowSign 8 _ [((2 : Int), 119)] = _ from one 8 2 119 (by decide),
    show rowSign 9 _ [((513 : Int), 116), ((512 : Int), 84), ((1 : Int), 120)] = _ from three 9 513 512 1 116 84 120 (by decide) r5 r6]
  show _ = 45 :: [_, _, _, _, _, _, _, _, _]
  simp only [sb, ← b 0 (by decide), ← b 1 (by decide), ← b 2 (by decide), ← b 3 (by decide), ← b 4 (by decide), ← b 5 (by decide), ← b 6 (by decide), ← b 7 (by decide), ← b 8 (by decide)]
  rfl
end Mine
namespace Mine
open PySem PySem.Calls PyProof.Rows PySem.Spec PySem.SeqAt

-- names
theorem nm_inj : ∀ k ∈ ord, ∀ j ∈ ord, sx (nm k) = sx (nm j) → k = j := by decide +kernel
theorem bit0 : ∀ k ∈ ord, bit 0 k = false := by decide +kernel
theorem fst0_eq (a : Int) : fst0 a = nms (ord.filter (bit a)) := by
  rw [fst0, named]
  congr 1
  refine List.filter_congr fun k hk => ?_
  rw [bit0 k hk]; simp
theorem mem_nms {k : Nat} {q : Nat → Bool} (hk : k ∈ ord) : sx (nm k) ∈ nms (ord.filter q) ↔ q k = true := by
  unfold nms
  rw [List.mem_map]
  constructor
  · rintro ⟨j, hj, e⟩
    obtain ⟨hj, hq⟩ := List.mem_filter.mp hj
    rw [← nm_inj j hj k hk e]; exact hq
  · intro hq
    exact ⟨k, List.mem_filter.mpr ⟨hk, hq⟩, rfl⟩
theorem diff_named (p q : Nat → Bool) : diffS (nms (ord.filter p)) (nms (ord.filter q)) = nms (named p q) := by
  rw [diffS, nms, named, nms, List.filter_map, List.filter_filter]
  congr 1
  refine List.filter_congr fun k hk => ?_
  have := mem_nms (q := q) hk
  unfold nms at this
  show (!decide (sx (nm k) ∈ _) && p k) = _
  rw [Bool.and_comm]
  congr 2
  rw [Bool.eq_iff_iff, decide_eq_true_iff, this]
theorem nms_nodup (p : Nat → Bool) : (nms (ord.filter p)).Nodup := by
  unfold nms
  refine List.pairwise_map.mpr (List.Pairwise.imp_of_mem (R := fun a b => a ≠ b) (fun {a b} ha hb hne e => hne (nm_inj a (List.mem_filter.mp ha).1 b (List.mem_filter.mp hb).1 e)) ?_)
  exact List.Pairwise.filter _ (by decide +kernel)

-- unorderable_list_difference
theorem uldS_append : ∀ (xs ys as : List Str), uldS (xs ++ ys) as = ((uldS xs as).1 ++ (uldS ys (uldS xs as).2).1, (uldS ys (uldS xs as).2).2)
  | [], ys, as => rfl
  | x :: xs, ys, as => by
    simp only [List.cons_append, uldS]
    split
    · exact uldS_append xs ys _
    · rw [uldS_append xs ys as]; rfl
theorem uldS_nodup : ∀ (xs as : List Str), xs.Nodup → as.Nodup → uldS xs as = (diffS xs as, diffS as xs)
  | [], as, _, _ => by
    have : diffS as [] = as := List.filter_eq_self.mpr fun _ _ => rfl
    rw [this]; rfl
  | x :: xs, as, hx, ha => by
    obtain ⟨hx, hxs⟩ := List.nodup_cons.mp hx
    unfold uldS
    split
    · rename_i hin
      rw [uldS_nodup xs _ hxs (ha.erase x)]
      have e1 : diffS xs (as.erase x) = diffS (x :: xs) as := by
        rw [show diffS (x :: xs) as = diffS xs as by simp [diffS, hin]]
        refine List.filter_congr fun y hy => ?_
        have : y ≠ x := fun e => hx (e ▸ hy)
        rw [decide_eq_decide.mpr (List.mem_erase_of_ne this)]
      have e2 : diffS (as.erase x) xs = diffS as (x :: xs) := by
        rw [ha.erase_eq_filter, diffS, diffS, List.filter_filter]
        refine List.filter_congr fun y hy => ?_
        by_cases e : y = x <;> simp [e, bne]
      rw [e1, e2]
    · rename_i hin
      rw [uldS_nodup xs as hxs ha]
      have e1 : x :: diffS xs as = diffS (x :: xs) as := by simp [diffS, hin]
      have e2 : diffS as xs = diffS as (x :: xs) := by
        refine List.filter_congr fun y hy => ?_
        have : y ≠ x := fun e => hin (e ▸ hy)
        simp [this]
      show (x :: diffS xs as, diffS as xs) = _
      rw [e1, e2]
theorem diff_none {xs as : List Str} (h : ∀ x ∈ xs, x ∉ as) : diffS xs as = xs := List.filter_eq_self.mpr fun x hx => by simp [h x hx]
theorem twice_eq (l : List Str) : twice l = l ++ l := by simp [twice, List.replicate_succ]
theorem diff_rev (xs as : List Str) : diffS xs.reverse as = (diffS xs as).reverse := by simp [diffS]
theorem uld_twice {F G : List Str} (hF : F.Nodup) (hG : G.Nodup) : uldS (twice F).reverse G = ((F ++ diffS F G).reverse, diffS G F) := by
  have hR : F.reverse.Nodup := (List.reverse_perm F).nodup_iff.mpr hF
  have e : diffS G F.reverse = diffS G F := by simp [diffS]
  have hb : (diffS G F).Nodup := hG.filter _
  rw [twice_eq, List.reverse_append, uldS_append, uldS_nodup _ _ hR hG, e]
  dsimp only
  rw [uldS_nodup _ _ hR hb]
  have h1 : diffS F.reverse (diffS G F) = F.reverse := diff_none fun x hx hin => by
    have := (List.mem_filter.mp hin).2
    simp at this hx
    exact this hx
  have h2 : diffS (diffS G F) F.reverse = diffS G F := diff_none fun x hx hin => by
    have := (List.mem_filter.mp hx).2
    simp at this hin
    exact this hin
  dsimp only
  rw [h1, h2, diff_rev, List.reverse_append]
-- _law_more
theorem count_nodup {l : List Str} (h : l.Nodup) (x : Str) : l.count x = if x ∈ l then 1 else 0 := by
  exact h.count
theorem range_map_getD (l : List Str) : (List.range l.length).map (fun k => l.getD k ⟨#[]⟩) = l := by
  refine List.ext_getElem (by simp) fun i h1 h2 => ?_
  simp [h2]
theorem filter_getD (l : List Str) (c : Nat → Bool) (d : Str → Bool) (h : ∀ k, k < l.length → c k = d (l.getD k ⟨#[]⟩)) : ((List.range l.length).filter c).map (fun k => l.getD k ⟨#[]⟩) = l.filter d := by
  conv => rhs; rw [← range_map_getD l, List.filter_map]
  congr 1
  exact List.filter_congr fun k hk => h k (List.mem_range.mp hk)
theorem rev_range (n : Nat) : (List.range n).map (fun i => n - 1 - i) = (List.range n).reverse := by
  refine List.ext_getElem (by simp) fun i h1 h2 => ?_
  simp
theorem range_two (n : Nat) : List.range (n + n) = List.range n ++ (List.range n).map (n + ·) := List.range_add
theorem getD_left {F G : List Str} {k : Nat} (h : k < F.length) : (F ++ G).getD k ⟨#[]⟩ = F.getD k ⟨#[]⟩ := by simp [List.getD_eq_getElem?_getD, List.getElem?_append_left h]
theorem getD_right {F G : List Str} {k : Nat} : (F ++ G).getD (F.length + k) ⟨#[]⟩ = G.getD k ⟨#[]⟩ := by simp [List.getD_eq_getElem?_getD, List.getElem?_append_right]
theorem getD_mem {F : List Str} {k : Nat} (h : k < F.length) : F.getD k ⟨#[]⟩ ∈ F := by simp [h]
theorem count_drop {F : List Str} (hF : F.Nodup) {k : Nat} (h : k < F.length) : (F.drop k).count (F.getD k ⟨#[]⟩) = 1 := by
  rw [count_nodup (hF.sublist (List.drop_sublist ..)), if_pos]
  have e : F.getD k ⟨#[]⟩ = F[k] := by simp [h]
  rw [e, List.drop_eq_getElem_cons h]; exact .head _
theorem count_take {F : List Str} (hF : F.Nodup) {k : Nat} (h : k < F.length) : (F.take (k + 1)).count (F.getD k ⟨#[]⟩) = 1 := by
  rw [count_nodup (hF.sublist (List.take_sublist ..)), if_pos]
  have e : F.getD k ⟨#[]⟩ = F[k] := by simp [h]
  rw [e, take_succ_of (List.getElem?_eq_getElem h)]; exact List.mem_append_right _ (.head _)
theorem more1_twice {F G : List Str} (hF : F.Nodup) (hG : G.Nodup) : more1 (twice F) G = (F ++ diffS F G).reverse := by
  rw [twice_eq, more1, rev_range, List.filter_reverse, List.map_reverse, List.length_append, range_two, List.filter_append, List.map_append]
  congr 2
  · have : (List.range F.length).filter (fun k => decide (G.count ((F ++ F).getD k ⟨#[]⟩) < ((F ++ F).drop k).count ((F ++ F).getD k ⟨#[]⟩))) = List.range F.length := List.filter_eq_self.mpr fun k hk => by
      have hk := List.mem_range.mp hk
      rw [getD_left hk, List.drop_append_of_le_length (by omega), List.count_append, count_drop hF hk, count_nodup hF, if_pos (getD_mem hk), count_nodup hG]
      split <;> decide
    rw [this]
    refine Eq.trans (List.map_congr_left fun k hk => getD_left (List.mem_range.mp hk)) (range_map_getD F)
  · rw [List.filter_map, List.map_map]
    refine Eq.trans (List.map_congr_left (g := fun k => F.getD k ⟨#[]⟩) fun k hk => getD_right) (filter_getD F _ _ fun k hk => ?_)
    show decide (G.count ((F ++ F).getD (F.length + k) ⟨#[]⟩) < ((F ++ F).drop (F.length + k)).count ((F ++ F).getD (F.length + k) ⟨#[]⟩)) = _
    rw [getD_right, List.drop_append, show F.length + k - F.length = k by omega, List.drop_of_length_le (by omega), List.nil_append, count_drop hF hk, count_nodup hG]
    generalize F.getD k ⟨#[]⟩ = x
    split <;> rename_i hin <;> simp [hin]
theorem more2_twice {F G : List Str} (hF : F.Nodup) (hG : G.Nodup) : more2 (twice F) G = diffS G F := by
  rw [twice_eq, more2]
  refine filter_getD G _ _ fun k hk => ?_
  rw [count_take hG hk, List.count_append, count_nodup hF]
  generalize G.getD k ⟨#[]⟩ = x
  split <;> rename_i hin <;> simp [hin]
theorem ul_ok (p q : Nat → Bool) : uldS (twice (nms (ord.filter p))).reverse (nms (ord.filter q)) = (more1 (twice (nms (ord.filter p))) (nms (ord.filter q)), more2 (twice (nms (ord.filter p))) (nms (ord.filter q))) := by
  rw [uld_twice (nms_nodup p) (nms_nodup q), more1_twice (nms_nodup p) (nms_nodup q), more2_twice (nms_nodup p) (nms_nodup q)]
end Mine
namespace Mine
open PySem PySem.Calls PyProof.Rows PySem.Spec PySem.SeqAt

theorem sgc_ne (k : Nat) : sgc k ≠ 45 ∧ sgc k ≠ 63 ∧ 45 < sgc k := by
  unfold sgc
  have : k % 3 = 0 ∨ k % 3 = 1 ∨ k % 3 = 2 := by omega
  rcases this with h | h | h <;> rw [h] <;> decide
noncomputable abbrev dig (p : Nat → Bool) (k : Nat) : Nat := if p k = true then sgc k else 45
theorem dig_eq (p q : Nat → Bool) (k : Nat) : (dig p k = dig q k) ↔ p k = q k := by
  have := (sgc_ne k).1
  cases hp : p k <;> cases hq : q k <;> simp [dig, hp, hq, this]; exact fun e => this e.symm
theorem dig_63 (p : Nat → Bool) (k : Nat) : dig p k ≠ 63 := by
  have := (sgc_ne k).2.1
  unfold dig; split
  · exact this
  · decide
theorem named_count (p q : Nat → Bool) (c : Nat → Bool) : ((named p q).filter c).length = ((List.range 9).filter fun k => p k && !q k && c k).length := by
  rw [named, List.filter_filter]
  have e : (fun k => c k && (p k && !q k)) = fun k => p k && !q k && c k := by funext k; cases p k <;> cases q k <;> cases c k <;> rfl
  rw [e]
  exact ((show ord.Perm (List.range 9) by decide +kernel).filter _).length_eq
theorem split_count (f g h : Nat → Bool) (hd : ∀ k, h k = (f k || g k)) (hx : ∀ k, (f k && g k) = false) : ∀ l : List Nat, (l.filter h).length = (l.filter f).length + (l.filter g).length
  | [] => rfl
  | k :: l => by
    have ih := split_count f g h hd hx l
    have h1 := hd k
    have h2 := hx k
    simp only [List.filter_cons]
    cases hf : f k <;> cases hg : g k <;> rw [hf, hg] at h1 h2 <;> simp at h1 h2 <;> simp [h1] <;> omega
theorem dots_ok (p q : Nat → Bool) : ((patL (signL p) (signL q)).filter isDot).length = (named p q).length + (named q p).length := by
  have e1 : (named p q).length = ((List.range 9).filter fun k => p k && !q k).length := by
    have := named_count p q fun _ => true
    rw [List.filter_eq_self.mpr fun _ _ => rfl] at this
    simpa using this
  have e2 : (named q p).length = ((List.range 9).filter fun k => q k && !p k).length := by
    have := named_count q p fun _ => true
    rw [List.filter_eq_self.mpr fun _ _ => rfl] at this
    simpa using this
  have e3 : (patL (signL p) (signL q)).filter isDot = ((List.range 9).map fun k => if dig p k = dig q k then dig p k else 63).filter isDot := by
    show ((((45, 45) :: ((List.range 9).map (dig p)).zip ((List.range 9).map (dig q))).map fun x => if x.1 = x.2 then x.1 else 63).filter isDot) = _
    rw [List.map_cons, List.zip_map, List.map_map]
    rw [show (List.range 9).zip (List.range 9) = (List.range 9).map fun k => (k, k) from by decide, List.map_map]
    rfl
  rw [e1, e2, e3, List.filter_map, List.length_map]
  refine split_count _ _ _ (fun k => ?_) (fun k => ?_) _
  · show isDot (if dig p k = dig q k then dig p k else 63) = _
    have h63 := dig_63 p k
    have := dig_eq p q k
    by_cases e : p k = q k
    · rw [if_pos (this.mpr e), e]
      have : isDot (dig p k) = false := by simp [isDot, h63]
      rw [this]; cases q k <;> rfl
    · rw [if_neg (fun z => e (this.mp z))]
      cases hp : p k <;> cases hq : q k <;> rw [hp, hq] at e <;> first | exact absurd rfl e | rfl
  · cases p k <;> cases q k <;> rfl

-- the order
noncomputable def digs (n : Nat) : Nat → List Nat
  | 0 => []
  | j + 1 => (if n / 2 ^ j % 2 == 1 then sgc (8 - j) else 45) :: digs n j
theorem digs_lt (n m : Nat) : ∀ j, (digs n j < digs m j ↔ n % 2 ^ j < m % 2 ^ j)
  | 0 => by simp [digs, Nat.mod_one]
  | j + 1 => by
    have ih := digs_lt n m j
    have s := sgc_ne (8 - j)
    rw [digs, digs, List.cons_lt_cons_iff, ih, Nat.mod_pow_succ, Nat.mod_pow_succ]
    have u : n % 2 ^ j < 2 ^ j := Nat.mod_lt _ (Nat.two_pow_pos _)
    have v : m % 2 ^ j < 2 ^ j := Nat.mod_lt _ (Nat.two_pow_pos _)
    generalize n % 2 ^ j = a at *
    generalize m % 2 ^ j = b at *
    generalize 2 ^ j = t at *
    have hn : n / t % 2 = 0 ∨ n / t % 2 = 1 := by omega
    have hm : m / t % 2 = 0 ∨ m / t % 2 = 1 := by omega
    rcases hn with hn | hn <;> rcases hm with hm | hm <;> rw [hn, hm] <;> simp <;> omega
theorem nine_digs (n : Nat) : nine (bit (n : Int)) = digs n 9 := by
  have sb (k : Nat) : bit (n : Int) k = nb n k := bit_nat n k
  show [_, _, _, _, _, _, _, _, _] = _
  simp only [sb]
  rfl
theorem lt_ok (n m : Nat) (hn : n < 512) (hm : m < 512) : decide (signL (bit (n : Int)) < signL (bit (m : Int))) = decide ((n : Int) < (m : Int)) := by
  refine decide_eq_decide.mpr ?_
  rw [signL, signL, List.cons_lt_cons_iff, nine_digs, nine_digs, digs_lt]
  rw [show 2 ^ 9 = 512 from rfl, Nat.mod_eq_of_lt hn, Nat.mod_eq_of_lt hm]
  simp

-- the letters
theorem rows_of (one two : List Nat) (c : Nat) (l : List Nat) : ∀ n, (((l.take n).foldl (cstep one two) []).filter fun r => r.2.2 == c) = if c ∈ l.take n ∧ one.count c ≠ two.count c then [(one.count c, two.count c, c)] else []
  | 0 => by simp
  | n + 1 => by
    have ih := rows_of one two c l n
    cases h : l[n]? with
    | none => rw [List.take_add_one, h, Option.toList_none, List.append_nil]; exact ih
    | some d =>
      rw [take_succ_of h, List.foldl_append]
      show List.filter _ (cstep one two ((l.take n).foldl (cstep one two) []) d) = _
      by_cases hd : d ∈ l.take n
      · rw [cstep_old hd, ih]
        have : (c ∈ l.take n ++ [d]) ↔ c ∈ l.take n := by
          simp only [List.mem_append, List.mem_singleton]
          exact ⟨fun q => q.elim id fun q => q ▸ hd, .inl⟩
        simp only [this]
      · rw [cstep_new hd]
        by_cases hc : d = c
        · subst hc
          by_cases hne : one.count d = two.count d
          · rw [if_neg (fun q => q hne), ih]; simp [hne]
          · rw [if_pos hne, List.filter_append, ih]
            simp [hd, hne]
        · have hc' : ¬ c = d := fun e => hc e.symm
          split
          · rw [List.filter_append, ih]; simp [hc, hc']
          · rw [ih]; simp [hc']
theorem count_sign (p : Nat → Bool) (c : Nat) (hc : c ≠ 45) : (signL p).count c = ((List.range 9).filter fun k => p k && (sgc k == c)).length := by
  rw [signL, List.count_cons_of_ne (Ne.symm hc), nine, List.count_eq_countP, List.countP_map, List.countP_eq_length_filter]
  congr 1
  refine List.filter_congr fun k _ => ?_
  show ((if p k = true then sgc k else 45) == c) = _
  cases hp : p k
  · simp [Ne.symm hc]
  · simp
theorem letter_ok (p q : Nat → Bool) (c : Nat) (hc : c ≠ 45) : ((((counted (signL p) (signL q)).filter (fun r => r.2.2 == c)).map (fun r => (r.1 : Int) - (r.2.1 : Int))) ++ [0])[0]? =
    some ((((named p q).filter (fun k => sgc k == c)).length : Int) - (((named q p).filter (fun k => sgc k == c)).length : Int)) := by
  have rows := rows_of (signL p) (signL q) c (signL p ++ signL q) (signL p ++ signL q).length
  rw [List.take_length] at rows
  rw [counted, rows, named_count, named_count]
  have cp := count_sign p c hc
  have cq := count_sign q c hc
  have sp := split_count (fun k => p k && !q k && (sgc k == c)) (fun k => p k && q k && (sgc k == c)) (fun k => p k && (sgc k == c)) (fun k => by cases p k <;> cases q k <;> cases (sgc k == c) <;> rfl) (fun k => by cases p k <;> cases q k <;> cases (sgc k == c) <;> rfl) (List.range 9)
  have sq := split_count (fun k => q k && !p k && (sgc k == c)) (fun k => p k && q k && (sgc k == c)) (fun k => q k && (sgc k == c)) (fun k => by cases p k <;> cases q k <;> cases (sgc k == c) <;> rfl) (fun k => by cases p k <;> cases q k <;> cases (sgc k == c) <;> rfl) (List.range 9)
  rw [← cp] at sp
  rw [← cq] at sq
  by_cases h : c ∈ signL p ++ signL q ∧ (signL p).count c ≠ (signL q).count c
  · rw [if_pos h]
    simp
    omega
  · rw [if_neg h]
    have : (signL p).count c = (signL q).count c := by
      by_cases hin : c ∈ signL p ++ signL q
      · exact Decidable.byContradiction fun hne => h ⟨hin, hne⟩
      · rw [List.mem_append, not_or] at hin
        rw [List.count_eq_zero.mpr hin.1, List.count_eq_zero.mpr hin.2]
    simp
    omega

theorem right_ok {a b : Int} (ha : 0 ≤ a ∧ a < 512) (hb : 0 ≤ b ∧ b < 512) : RightOK a b := by
  obtain ⟨n, rfl⟩ := Int.eq_ofNat_of_zero_le ha.1
  obtain ⟨m, rfl⟩ := Int.eq_ofNat_of_zero_le hb.1
  have hn : n < 512 := by omega
  have hm : m < 512 := by omega
  refine ⟨modeL_nat n hn, modeL_nat m hm, ?_, ?_, ?_, dots_ok _ _, lt_ok n m hn hm, lt_ok m n hm hn, fun c hc => letter_ok _ _ c ?_⟩
  · rw [fst0_eq, fst0_eq]; exact diff_named _ _
  · rw [fst0_eq, fst0_eq]; exact diff_named _ _
  · rw [fst0_eq, fst0_eq]; exact ul_ok _ _
  · simp at hc; omega
end Mine
namespace Mine
open PySem PySem.Calls PyProof.Rows PySem.Spec PySem.SeqAt

noncomputable abbrev intL (l : List Int) : List AV := l.map AV.int
theorem pick_ints (M : List Int) (lo hi st : Option Int) : ∃ N, pick (intL M) lo hi st = intL N := by
  unfold pick
  refine ⟨(sliceRange (sliceBounds lo hi st (intL M).length).1 (sliceBounds lo hi st (intL M).length).2.1 (sliceBounds lo hi st (intL M).length).2.2).filterMap (M[·]?), ?_⟩
  show _ = List.map AV.int _
  rw [List.map_filterMap]
  congr 1
  funext i
  simp
theorem range_short {a n : Int} (ha : 0 ≤ a) (hn : 0 ≤ n) (hn2 : n ≤ 100) : (sliceRange a n 2).length ≤ 100 := by
  unfold sliceRange
  rw [List.length_map, List.length_range]
  simp only [show (2 : Int) > 0 by decide, if_true]
  split <;> omega
theorem pick_short (xs : List AV) (hl : xs.length ≤ 100) (lo : Option Int) (h : lo = none ∨ lo = some 1) : (pick xs lo none (some 2)).length ≤ 100 := by
  unfold pick
  refine Nat.le_trans (List.length_filterMap_le ..) ?_
  rcases h with rfl | rfl
  · show (sliceRange 0 (xs.length : Int) 2).length ≤ 100
    exact range_short (by decide) (by omega) (by omega)
  · show (sliceRange (max 0 (min 1 (xs.length : Int))) (xs.length : Int) 2).length ≤ 100
    exact range_short (by omega) (by omega) (by omega)
theorem pick_four (xs : List AV) : pick xs none (some 4) none = xs.take 4 := by
  unfold pick
  have e : sliceBounds none (some 4) none xs.length = (((0 : Nat) : Int), ((min 4 xs.length : Nat) : Int), 1) := by
    show ((0 : Int), max 0 (min (4 : Int) (xs.length : Int)), (1 : Int)) = _
    simp
    omega
  rw [e]
  simp only [pick_run]
  rw [List.drop_zero, Nat.sub_zero, List.take_eq_take_min (i := 4)]
theorem ints_tf : ∀ l : List Int, tfs (intL l) = true
  | [] => rfl
  | i :: l => by show (true && tfs (intL l)) = true; rw [ints_tf l]; rfl
theorem zip_ints (l m : List Int) : zipd (intL l) (intL m) = (l.zip m).map fun x => .tup [.int x.1, .int x.2] := by
  rw [zipd, List.zip_map, List.map_map]; rfl
theorem ints_vrs {H : HP} {h : Heap} : ∀ {ns : List Int} {vs : List Value}, IntsAre vs ns → VRs H h (intL ns) vs
  | [], _, .nil => .nil
  | n :: ns, _, .cons _ _ r => .cons (.int ..) (ints_vrs r)
section
variable {prog : Program} {w : World} {B : GB} {A : Around} {env : Env} {l : Loc} {H : HP} {P : AV → HP → Prop}
theorem ex_sliceV {value : Expr} {lower upper step : Option Expr} {p pos : Pos} {a : Addr} {us : Array Value} {xs : List AV} (hl : B.heap.IsList a us) (rs : ∀ H h, VRs H h xs us.toList) (hlen : xs.length ≤ 1000)
    (h : EX prog w B A env l value H fun av H₁ => av = .val (.ref a) ∧ EO prog w B A env l lower H₁ fun lo H₂ => EO prog w B A env l upper H₂ fun hi H₃ => EO prog w B A env l step H₃ fun st H₄ =>
      st ≠ some 0 ∧ P (.lst (pick xs lo hi st)) H₄)
    (hsl : ∀ o i, ∃ ops, subscripted (.Slice lower upper step p) false o i = operate ops (getItem o i) := by exact fun o i => ⟨_, rfl⟩) :
    EX prog w B A env l (.Subscript value (.Slice lower upper step p) pos) H P := .mk fun s E hr F => by
  refine subs_core item_list (use (h.run s E hr F) fun av v H₁ h₁ tk₁ p r hr₁ t₁ => ?_) hsl
  obtain ⟨rfl, p⟩ := p
  cases r
  refine wpAny_Slice (wpAny_mono (p.run { s with heap := h₁, toks := tk₁ } _ hr₁ (F.tr t₁)) (fun vl s₂ q => ?_) fun _ _ e => e)
  obtain ⟨lo, H₂, h₂, tk₂, rfl, pl, p₂, hr₂, t₂⟩ := q
  refine wpAny_mono (p₂.run { s with heap := h₂, toks := tk₂ } _ hr₂ ((F.tr t₁).tr t₂)) (fun vu s₃ q => ?_) fun _ _ e => e
  obtain ⟨hi, H₃, h₃, tk₃, rfl, pu, p₃, hr₃, t₃⟩ := q
  refine wpAny_mono (p₃.run { s with heap := h₃, toks := tk₃ } _ hr₃ (((F.tr t₁).tr t₂).tr t₃)) (fun vs s₄ q => ?_) fun _ _ e => e
  obtain ⟨st, H₄, h₄, tk₄, rfl, ps, ⟨h0, p₄⟩, hr₄, t₄⟩ := q
  have kp : ∀ b o, h₄.get? b = some o → (h₄.push { cls := .type "slice", data := .fields #[vl, vu, vs] }).get? b = some o := fun b o e => Heap.get?_push_of_some _ e
  have hl' : (h₄.push { cls := .type "slice", data := .fields #[vl, vu, vs] }).IsList a us := by
    obtain ⟨o, e, q⟩ := hl; exact ⟨o, kp _ _ (hr₄.keep _ _ e), q⟩
  have hz : us.size = xs.length := by rw [(rs [] ⟨#[], h₄.life⟩).length, Array.length_toList]
  refine ⟨hl'.typeIs, wpAny_getItem_list_slice hl' (Heap.IsSliceOf.new ..) pl pu ps h0 ?_ (by rw [hz, sizeLine_eq]; omega)⟩
  have hr₅ := hr₄.keeps kp
  have kp' : ∀ b o, (h₄.push { cls := .type "slice", data := .fields #[vl, vu, vs] }).get? b = some o → ((h₄.push { cls := .type "slice", data := .fields #[vl, vu, vs] }).push (lob (slicePick us lo hi st) 0)).get? b = some o := fun b o e => Heap.get?_push_of_some _ e
  exact ⟨.lst (pick xs lo hi st), H₄, _, _, rfl, p₄, VR.pushLst hr₅ ((rs _ _).pick lo hi st), hr₅.keeps kp', (((t₁.trans' t₂).trans' t₃).trans' t₄).trans' ((Tr.keeps kp).trans' (.keeps kp'))⟩
end
noncomputable def onII (f : Int → Int → AV) : AV → AV
  | .tup [.int a, .int b] => f a b
  | _ => .none
noncomputable def pairA (x : Int × Int) : AV := .lst [.int (x.1.fmod 512), .int (x.2.fmod 512)]
theorem pairs_are (l m : List Int) : (((l.zip m).map fun x => AV.tup [.int x.1, .int x.2]).filter fun _ => true).map (onII fun j k => .lst [.int (j.fmod 512), .int (k.fmod 512)]) = (l.zip m).map pairA := by
  rw [List.filter_eq_self.mpr fun _ _ => rfl, List.map_map]; rfl
theorem filter_no (l : List AV) : (l.filter fun _ => false) = [] := List.filter_eq_nil_iff.mpr fun _ _ => Bool.false_ne_true
theorem mod512 (i : Int) : 0 ≤ i.fmod 512 ∧ i.fmod 512 < 512 := ⟨Int.fmod_nonneg_of_pos _ (by decide), Int.fmod_lt_of_pos _ (by decide)⟩

section
variable {w : World} {B : GB} {A : Around} {gl : Str → Option Value} {D : Ad} {P : AV → HP → Prop}
theorem c_law (W : Wo w B.heap gl D) (hf : FnAt B.heap TB 46 D.law) (R : Rm A 6) (Fa : FrA A B) {a : Addr} {vs : List Value} {ns : List Int} (hl : B.heap.IsList a vs.toArray) (hi : IntsAre vs ns) (hn : ns.length ≤ 63) (p : P (.bool true) []) : CF PG w B A [] [.val (.ref a)] D.law P := by
  refine cf_fn (ns := ["script"]) W hf R (fun name qual doc pm an cdv ct L hL => ?_) (fun _ _ _ _ _ _ _ vs h => ?_) (by decide)
  · intro env A' B' W R'
    have Fb : FrA A' B' :=
      Fa.deeper (show ScopeKind.function ≠ ScopeKind.module by decide) rfl hL
    refine st_cons' ?_
    intro K
    refine sx_assign (ex_binop (ex_sliceV (B := B.more L) hl (xs := intL ns) (fun _ _ => by simpa using ints_vrs hi) (by rw [List.length_map]; omega) (ex_local rfl rfl ⟨rfl, eo_none (eo_some (ex_int ⟨_, rfl, eo_none ⟨by simp, ?_⟩⟩))⟩)))
    rw [pick_four]
    refine ex_list (el_cons (ex_int (el_cons (ex_int (el_cons (ex_int (el_cons (ex_int (el_cons (ex_int (el_cons (ex_int (el_nil ⟨Nat.le_of_ble_eq_true rfl, op_addl ?_ ?_⟩)))))))))))))
    · rw [List.length_take]; show _ + 6 ≤ 1000; omega
    rw [show (intL ns).take 4 ++ [AV.int 493, .int 420, .int 365, .int 448, .int 502, .int 502] = intL (ns.take 4 ++ [493, 420, 365, 448, 502, 502]) by simp [intL]]
    have hM : (ns.take 4 ++ [493, 420, 365, 448, 502, 502]).length ≤ 10 := by rw [List.length_append, List.length_take]; show _ + 6 ≤ 10; omega
    generalize ns.take 4 ++ [493, 420, 365, 448, 502, 502] = M at hM
    have lM : (intL M).length ≤ 100 := by rw [List.length_map]; omega
    refine as_local rfl ?_
    obtain ⟨N, hN⟩ := pick_ints M none none (some 2)
    obtain ⟨O, hO⟩ := pick_ints M (some 1) none (some 2)
    have lN := pick_short (intL M) lM none (.inl rfl)
    have lO := pick_short (intL M) lM (some 1) (.inr rfl)
    rw [hN, List.length_map] at lN
    rw [hO, List.length_map] at lO
    refine st_cons' ?_
    intro K
    refine sx_assignComp (l₀ := []) (p := fun _ => true) (f := onII fun j k => .lst [.int (j.fmod 512), .int (k.fmod 512)]) (soft := true) rfl (by decide) rfl (by decide) trivial rfl ?_
    refine itx_callTy W W.zip rfl ?_
    refine el_cons (ex_slice (ex_local rfl rfl ⟨rfl, eo_none (eo_none (eo_some (ex_int ⟨_, rfl, by simp, _, rfl, by omega, ?_⟩)))⟩))
    rw [hN]
    refine el_cons (ex_slice (ex_local rfl rfl ⟨rfl, eo_some (ex_int ⟨_, rfl, eo_none (eo_some (ex_int ⟨_, rfl, by simp, _, rfl, by omega, ?_⟩))⟩)⟩))
    rw [hO]
    refine el_nil (opi_zipLst R'.hh (ints_tf _) (ints_tf _) ?_)
    rw [zip_ints]
    refine ⟨_, fun _ _ => rfl, by rw [List.length_map, List.length_zip]; omega, fun _ => ⟨fun q hq => (nomatch hq), fun x a e => (nomatch e), fun x hx => ?_⟩, fun x hx C E acc hacc => ?_, ?_⟩
    · obtain ⟨y, hy, rfl⟩ := List.mem_map.mp hx
      rfl
    · obtain ⟨y, hy, rfl⟩ := List.mem_map.mp hx
      refine as_tuple2 R'.hh (as_bind (as_local rfl (as_bind (as_local rfl ⟨rfl, fun _ _ e => (nomatch e), ts_nil ⟨rfl, rfl, fun _ => ?_⟩⟩))))
      exact ex_list (el_cons (ex_binop (ex_local rfl rfl (ex_int (op_fmod (by decide) (el_cons (ex_binop (ex_local rfl rfl (ex_int (op_fmod (by decide) (el_nil ⟨Nat.le_of_ble_eq_true rfl, rfl, rfl⟩)))))))))))
    rw [pairs_are]
    have lP : ((N.zip O).map pairA).length ≤ 100 := by rw [List.length_map, List.length_zip]; omega
    refine st_cons' ?_
    intro K
    refine sx_return (ex_cmp1 ?_)
    refine ex_comp (l₀ := []) (p := fun _ => false) (f := fun y => y) (soft := false) rfl (by decide) rfl (by decide) trivial ?_
    refine itx_value (ex_local rfl rfl (itr_list R'.hh rfl (fun _ e => (nomatch e)) ?_))
    refine ⟨_, fun _ _ => rfl, by omega, fun h => (nomatch h), fun x hx C E acc hacc => ?_, ?_⟩
    · obtain ⟨y, hy, rfl⟩ := List.mem_map.mp hx
      have hacc : acc = [] := by
        obtain ⟨n, rfl⟩ := hacc
        rw [filter_no]; rfl
      subst hacc
      refine as_name (as_local rfl ⟨rfl, fun _ _ e => (nomatch e), ts_one (tx_not (tx_value ?_))⟩)
      refine ex_callG W W.right ?_
      refine el_cons (ex_item item_list (ex_local rfl rfl (ex_int ⟨isT_lst, op_itemL rfl rfl (by decide) (by decide) rfl ?_⟩)))
      refine el_cons (ex_item item_list (ex_local rfl rfl (ex_int ⟨isT_lst, op_itemL rfl rfl (by decide) (by decide) rfl (el_nil ?_)⟩)))
      exact c_right W R' Fb (fun q hq => by simp at hq; subst hq; rfl) (right_ok (mod512 _) (mod512 _)) (opb_bool ⟨rfl, rfl, fun h => (nomatch h)⟩)
    rw [filter_no]
    have hu := R'.units
    refine ex_list (el_nil ⟨by decide, op_eqD (da := .list []) (db := .list []) rfl rfl rfl rfl (by decide) (by decide) (by omega) ?_⟩)
    rw [same_self]
    exact p
  · obtain ⟨a, rfl⟩ := one_arg h; rfl
end
end Mine
namespace Mine
open PySem PySem.Calls PyProof.Rows PySem.W

noncomputable def FnK (K : Frag) (l : List Stmt) (i : Nat) (f : Addr) : Prop := ∃ oc od osl name qual doc pm an cdv ct, K.lookup f = some ⟨oc, od, .func (fnOf name qual (argsIn l i) (bodyIn l i) (scopeIn l i) .none .none doc pm an cdv ct), osl⟩ ∧ codeIn K cdv qual = true
theorem FnK.at {K : Frag} {h : Heap} {l : List Stmt} {i : Nat} {f : Addr} (X : K.In h) (x : FnK K l i f) : FnAt h l i f := by
  obtain ⟨oc, od, osl, name, qual, doc, pm, an, cdv, ct, e, c⟩ := x
  exact ⟨_, name, qual, doc, pm, an, cdv, ct, X _ _ e, rfl, codeRec_of X c⟩
noncomputable def intOf : Value → Option Int
  | .int i _ => some i
  | _ => none
noncomputable def strOf : Value → Option Str
  | .str s _ => some s
  | _ => none
noncomputable def seqIn (K : Frag) : Value → Option (List Value)
  | .ref a => (match K.lookup a with
    | some ⟨c, .none, .seq vs _, sl⟩ => if c == .type "tuple" && sl.isEmpty then some vs.toList else none
    | _ => none)
  | _ => none
theorem seqIn_tup {K : Frag} {h : Heap} (X : K.In h) {v : Value} {vs : List Value} {l : List AV} (e : seqIn K v = some vs) (r : VRs [] h l vs) : VR [] h (.tup l) v := by
  unfold seqIn at e
  split at e
  · split at e
    · rename_i c us n sl hk
      split at e
      · rename_i hc
        simp only [Bool.and_eq_true, beq_iff_eq, Array.isEmpty_iff] at hc
        obtain ⟨rfl, rfl⟩ := hc
        cases e
        exact .tup (X _ _ hk) r
      · cases e
    · cases e
  · cases e
noncomputable def allIn {α : Type} (f : α → Value → Bool) : List α → List Value → Bool
  | [], vs => vs.isEmpty
  | x :: l, vs => (match vs with | v :: vs => f x v && allIn f l vs | [] => false)
theorem allIn_vrs {α : Type} {h : Heap} {f : α → Value → Bool} {g : α → AV} (hf : ∀ x v, f x v = true → VR [] h (g x) v) : ∀ (l : List α) (vs : List Value), allIn f l vs = true → VRs [] h (l.map g) vs
  | [], vs, e => by cases vs with | nil => exact .nil | cons v vs => cases e
  | x :: l, vs, e => by
    cases vs with
    | nil => cases e
    | cons v vs =>
      obtain ⟨e1, e2⟩ := Bool.and_eq_true_iff.mp (show (f x v && allIn f l vs) = true from e)
      exact .cons (hf x v e1) (allIn_vrs hf l vs e2)
noncomputable def pairIn (K : Frag) (p : Int × Nat) (v : Value) : Bool := match seqIn K v with
  | some vs => vs.map intOf == [some p.1, none] && vs.map strOf == [none, some ⟨#[p.2]⟩]
  | none => false
theorem pairIn_vr {K : Frag} {h : Heap} (X : K.In h) (p : Int × Nat) (v : Value) (e : pairIn K p v = true) : VR [] h (fbit p.1 p.2) v := by
  unfold pairIn at e
  split at e
  · rename_i vs hs
    simp only [Bool.and_eq_true, beq_iff_eq] at e
    refine seqIn_tup X hs ?_
    obtain ⟨e1, e2⟩ := e
    obtain ⟨x, y, rfl⟩ := two_args (vs := vs) (by simpa using congrArg List.length e1)
    simp only [List.map_cons, List.map_nil, List.cons.injEq, and_true] at e1 e2
    refine .cons ?_ (.cons ?_ .nil)
    · have := e1.1
      unfold intOf at this
      split at this
      · injection this with this; rw [← this]; exact .int ..
      · cases this
    · have := e2.2
      unfold strOf at this
      split at this
      · injection this with this; rw [← this]; exact .str ..
      · cases this
  · cases e
noncomputable def rowIn (K : Frag) (r : List (Int × Nat)) (v : Value) : Bool := match seqIn K v with
  | some vs => allIn (pairIn K) r vs
  | none => false
theorem rowIn_vr {K : Frag} {h : Heap} (X : K.In h) (r : List (Int × Nat)) (v : Value) (e : rowIn K r v = true) : VR [] h (.tup (r.map fun p => fbit p.1 p.2)) v := by
  unfold rowIn at e
  split at e
  · rename_i vs hs
    exact seqIn_tup X hs (allIn_vrs (pairIn_vr X) r vs e)
  · cases e
noncomputable def tabIn (K : Frag) (v : Value) : Bool := match seqIn K v with
  | some vs => allIn (rowIn K) ftabL vs
  | none => false
theorem tabIn_vr {K : Frag} {h : Heap} (X : K.In h) (v : Value) (e : tabIn K v = true) : VR [] h ftabAV v := by
  unfold tabIn at e
  split at e
  · rename_i vs hs
    exact seqIn_tup X hs (allIn_vrs (rowIn_vr X) ftabL vs e)
  · cases e
noncomputable def charsIn (K : Frag) (a : Addr) : Bool := match K.lookup a with
  | some ⟨c, .none, .dict es _, sl⟩ => c == .type "dict" && sl.isEmpty && es.toList.all (fun e => match e.key with | .int k _ => e.hash == hashInt k | _ => false) &&
      (match findBy Value.isInt es 45 with | some (.str s _) => s == ⟨#[92, 45]⟩ | _ => false) && (findBy Value.isInt es 114).isNone && (findBy Value.isInt es 119).isNone && (findBy Value.isInt es 120).isNone
  | _ => false
theorem chars_of {w : World} {K : Frag} {h : Heap} {a : Addr} (X : K.In h) (e : charsIn K a = true) : ∃ f, h.MapOf (intKind PG w) a f ∧ (∃ u, f 45 = some (.str ⟨#[92, 45]⟩ u)) ∧ f 114 = none ∧ f 119 = none ∧ f 120 = none := by
  unfold charsIn at e
  split at e
  · rename_i c es n sl hk
    simp only [Bool.and_eq_true, beq_iff_eq, Array.isEmpty_iff, Option.isNone_iff_eq_none] at e
    obtain ⟨⟨⟨⟨⟨⟨rfl, rfl⟩, h1⟩, h2⟩, h3⟩, h4⟩, h5⟩ := e
    refine ⟨findBy Value.isInt es, ⟨_, es, n, X _ _ hk, ⟨rfl, rfl, rfl⟩, rfl, fun en he => ?_, fun _ => rfl⟩, ?_, h3, h4, h5⟩
    · have := List.all_eq_true.mp h1 en (Array.mem_toList_iff.mpr he)
      split at this
      · rename_i k t hkey
        exact ⟨k, by rw [hkey]; simp [intKind, Value.isInt], (show en.hash = hashInt k by simpa using this)⟩
      · cases this
    · split at h2
      · rename_i s t hs
        exact ⟨t, by rw [hs, beq_iff_eq.mp h2]⟩
      · cases h2
  · cases e

structure MisK (w : World) (K : Frag) (C f p : Addr) : Prop where
  iter : findIn K (.ref C) "__iter__" = some (some (.builtin "tuple.__iter__"))
  len : findIn K (.ref C) "__len__" = some (some (.builtin "tuple.__len__"))
  tup : subIn K (.ref C) (.type "tuple") = some true
  obj : ∃ oc od cd sl, K.lookup C = some ⟨oc, od, .cls cd, sl⟩ ∧ cd.hasDel = false
  mro : peek K ⟨PG, w.params⟩ (mroOf (.ref C)) = some [.ref C, .type "tuple", .type "object"]
  made : peek K ⟨PG, w.params⟩ (Bind.madeBy (.ref C)) = some none
  base : peek K ⟨PG, w.params⟩ (Bind.staticBase (.ref C)) = some (.type "tuple")
  self : subIn K (.ref C) (.ref C) = some true
  top : subIn K (.ref C) (.type "object") = some true
  call : specialIn K (.ref C) "__call__" = some (some (.builtin "type.__call__"))
  typ : peek K ⟨PG, w.params⟩ (isInstance (.ref C) (.type "type")) = some true
  init : findIn K (.ref C) "__init__" = some (some (.builtin "object.__init__"))
  reads : readsIn K C (.type "type") = true
  new : findCls K (.ref C) (.type "type") "__new__" = some (.get (.builtin "staticmethod.__get__") (.ref p) .none (.ref C))
  sm : ∃ rest, recIn K p "staticmethod" = some (.ref f :: rest)
theorem MisK.at {w : World} {K : Frag} {h : Heap} {C f p : Addr} (X : K.In h) (x : MisK w K C f p) : MisN (model PG w) h C f where
  iter := looks_findIn X x.iter
  len := looks_findIn X x.len
  tup := looks_subIn X x.tup
  obj := let ⟨oc, od, cd, sl, e, r⟩ := x.obj; ⟨oc, od, cd, sl, X _ _ e, r⟩
  mro := .of_peek X x.mro
  made := .of_peek X x.made
  base := .of_peek X x.base
  self := looks_subIn X x.self
  top := looks_subIn X x.top
  call := looks_specialIn X x.call
  typ := .of_peek X x.typ
  init := looks_findIn X x.init
  new := fun A Q E s k q => by
    obtain ⟨rest, hp⟩ := x.sm
    have X' : K.In s.heap := X.keeps k
    exact cls_bind X' x.reads x.new (wpAny_call (sm_get (s := { s with toks := s.toks + 1 }) X' hp (handed_on rfl q)))
structure Chk (w : World) (K : Frag) (D : Ad) (p : Addr) : Prop where
  range : nsIn K mainGlobals "range" = some none
  len : nsIn K mainGlobals "len" = some none
  sorted : nsIn K mainGlobals "sorted" = some none
  str : nsIn K mainGlobals "str" = some none
  tuple : nsIn K mainGlobals "tuple" = some none
  enum : nsIn K mainGlobals "enumerate" = some none
  zip : nsIn K mainGlobals "zip" = some none
  list : nsIn K mainGlobals "list" = some none
  object : nsIn K mainGlobals "object" = some none
  isinst : nsIn K mainGlobals "isinstance" = some none
  ixerr : nsIn K mainGlobals "IndexError" = some none
  valerr : nsIn K mainGlobals "ValueError" = some none
  sld : nsIn K mainGlobals "sorted_list_difference" = some (some (.ref D.sld)) ∧ FnK K TB 4 D.sld
  uld : nsIn K mainGlobals "unorderable_list_difference" = some (some (.ref D.uld)) ∧ FnK K TB 5 D.uld
  cmp : nsIn K mainGlobals "three_way_cmp" = some (some (.ref D.cmp)) ∧ FnK K TB 6 D.cmp
  cdp : nsIn K mainGlobals "_count_diff_all_purpose" = some (some (.ref D.cdp)) ∧ FnK K TB 9 D.cdp
  esc : nsIn K mainGlobals "escape" = some (some (.ref D.esc)) ∧ FnK K TB 13 D.esc
  trl : nsIn K mainGlobals "_translate" = some (some (.ref D.trl)) ∧ FnK K TB 15 D.trl
  ifmt : nsIn K mainGlobals "S_IFMT" = some (some (.ref D.ifmt)) ∧ FnK K TB 17 D.ifmt
  fmode : nsIn K mainGlobals "filemode" = some (some (.ref D.fmode)) ∧ FnK K TB 38 D.fmode
  bit : nsIn K mainGlobals "_law_bit" = some (some (.ref D.bit)) ∧ FnK K TB 40 D.bit
  signs : nsIn K mainGlobals "_law_signs" = some (some (.ref D.signs)) ∧ FnK K TB 41 D.signs
  named : nsIn K mainGlobals "_law_named" = some (some (.ref D.named)) ∧ FnK K TB 42 D.named
  counted : nsIn K mainGlobals "_law_counted" = some (some (.ref D.counted)) ∧ FnK K TB 43 D.counted
  more : nsIn K mainGlobals "_law_more" = some (some (.ref D.more)) ∧ FnK K TB 44 D.more
  right : nsIn K mainGlobals "_law_right" = some (some (.ref D.right)) ∧ FnK K TB 45 D.right
  law : nsIn K mainGlobals "law" = some (some (.ref D.law)) ∧ FnK K TB 46 D.law
  ftab : nsIn K mainGlobals "_filemode_table" = some (some D.ftab) ∧ tabIn K D.ftab = true
  chars : nsIn K mainGlobals "_special_chars_map" = some (some (.ref D.chars)) ∧ (D.chars == sysModules) = false ∧ charsIn K D.chars = true
  mis : nsIn K mainGlobals "_Mismatch" = some (some (.ref D.mis)) ∧ MisK w K D.mis D.misNew p ∧ FnK K misBody 4 D.misNew
theorem Chk.wo {w : World} {K : Frag} {D : Ad} {p : Addr} (c : Chk w K D p) {h : Heap} {mg mb : Str → Option Value} (X : K.In h) (g : h.Ns mainGlobals mg) (b : h.Ns builtinsNs mb) (hb : ∀ x : Str, x ≠ "__name__" → mb x = bootBuiltins x)
    (nl : h.NoLimit) (nd : ∃ mc, h.Ns cStatics mc ∧ mc "sys.int_max_str_digits" = none) : Wo w h mg D where
  g := g
  b := ⟨mb, b, hb⟩
  nolimit := nl
  nodigits := nd
  range := mg_none_of X g c.range
  len := mg_none_of X g c.len
  sorted := mg_none_of X g c.sorted
  str := mg_none_of X g c.str
  tuple := mg_none_of X g c.tuple
  enum := mg_none_of X g c.enum
  zip := mg_none_of X g c.zip
  list := mg_none_of X g c.list
  object := mg_none_of X g c.object
  isinst := mg_none_of X g c.isinst
  ixerr := mg_none_of X g c.ixerr
  valerr := mg_none_of X g c.valerr
  sld := ⟨mg_of X g c.sld.1, c.sld.2.at X⟩
  uld := ⟨mg_of X g c.uld.1, c.uld.2.at X⟩
  cmp := ⟨mg_of X g c.cmp.1, c.cmp.2.at X⟩
  cdp := ⟨mg_of X g c.cdp.1, c.cdp.2.at X⟩
  esc := ⟨mg_of X g c.esc.1, c.esc.2.at X⟩
  trl := ⟨mg_of X g c.trl.1, c.trl.2.at X⟩
  ifmt := ⟨mg_of X g c.ifmt.1, c.ifmt.2.at X⟩
  fmode := ⟨mg_of X g c.fmode.1, c.fmode.2.at X⟩
  bit := ⟨mg_of X g c.bit.1, c.bit.2.at X⟩
  signs := ⟨mg_of X g c.signs.1, c.signs.2.at X⟩
  named := ⟨mg_of X g c.named.1, c.named.2.at X⟩
  counted := ⟨mg_of X g c.counted.1, c.counted.2.at X⟩
  more := ⟨mg_of X g c.more.1, c.more.2.at X⟩
  right := ⟨mg_of X g c.right.1, c.right.2.at X⟩
  ftab := ⟨mg_of X g c.ftab.1, tabIn_vr X _ c.ftab.2⟩
  chars := ⟨mg_of X g c.chars.1, c.chars.2.1, chars_of X c.chars.2.2⟩
  mis := ⟨mg_of X g c.mis.1, c.mis.2.1.at X, c.mis.2.2.at X⟩
theorem room6 : Rm callerA 6 := ⟨rfl, by decide +kernel, by decide +kernel⟩
theorem law_ends {w : World} {K : Frag} {D : Ad} {p : Addr} (c : Chk w K D p) {s : Shared} {mg mb : Str → Option Value} (X : K.In s.heap) (g : s.heap.Ns mainGlobals mg) (b : s.heap.Ns builtinsNs mb) (hb : ∀ x : Str, x ≠ "__name__" → mb x = bootBuiltins x)
    (nl : s.heap.NoLimit) (nd : ∃ mc, s.heap.Ns cStatics mc ∧ mc "sys.int_max_str_digits" = none) {fa a : Addr} (hf : mg "law" = some (.ref fa)) {vs : List Value} {ns : List Int} (hl : s.heap.IsList a vs.toArray) (hi : IntsAre vs ns) (hn : ns.length ≤ 63) {R : Result → Shared → Prop}
    (hR : ∀ h' tk, (∀ b o, s.heap.get? b = some o → h'.get? b = some o) → R (.ok (.ret (.bool true))) { s with heap := h', toks := tk }) : codeAny (model PG w) callerA (.call (.ref fa) ⟨[.ref a], []⟩) R s := by
  have hfa : fa = D.law := by
    rw [mg_of X g c.law.1] at hf
    injection hf with hf; injection hf with hf; exact hf.symm
  subst hfa
  refine codeAny_mono ((c_law (B := ⟨s.heap, []⟩) (P := fun r H => r = .bool true) (c.wo X g b hb nl nd) (c.law.2.at X) room6 ⟨[], rfl, fun _ h => nomatch h⟩ hl hi hn rfl).run s (fun _ _ => False) [.ref a] (.empty (fun _ _ e => e) fun _ h => nomatch h) (.cons (.val _) .nil)) fun r s' q => ?_
  match r, q with
  | .ok (.ret v), q =>
    obtain ⟨av, H', h', tk, rfl, rfl, rv, hr, t⟩ := q
    cases rv
    exact hR h' tk hr.keep
end Mine
namespace Mine
open PySem PySem.Calls PyProof.Rows PySem.W
noncomputable def theAd : Ad := { sld := 88, uld := 95, cmp := 102, cdp := 183, esc := 200, trl := 207, ifmt := 214, fmode := 254, bit := 261, signs := 266, named := 271, counted := 278, more := 283, right := 288, law := 293, mis := 173, misNew := 120, chars := 190, ftab := .ref 247 }
end Mine

noncomputable def Mine.hq.tw6442286201827202927 : Unit := ()
noncomputable def Mine.hq.tw13751960006981385605 : Unit := ()
noncomputable def Mine.hq.tw9901041768872518651 : Unit := ()
noncomputable def Mine.hq.tw18023701660430168103 : Unit := ()
noncomputable def Mine.hq.tw233199577985559970 : Unit := ()
noncomputable def Mine.hq.tw12634840236772402975 : Unit := ()
noncomputable def Mine.hq.tw3628305938926661053 : Unit := ()
noncomputable def Mine.hq.tw9371571126222788686 : Unit := ()
noncomputable def Mine.hq.tw3670640446270802765 : Unit := ()
noncomputable def Mine.hq.tw14338712846634258801 : Unit := ()
noncomputable def Mine.hq.tw9428742883436320482 : Unit := ()
noncomputable def Mine.hq.tw12496698030514209297 : Unit := ()
noncomputable def Mine.hq.tw12664413295080255743 : Unit := ()
noncomputable def Mine.hq.tw16231922416965314548 : Unit := ()
noncomputable def Mine.hq.tw7089316416521786280 : Unit := ()
noncomputable def Mine.hq.tw1790225447845560585 : Unit := ()
noncomputable def Mine.hq.tw16809807526908380884 : Unit := ()
noncomputable def Mine.hq.tw909575876175560465 : Unit := ()
noncomputable def Mine.hq.tw15812451359255101891 : Unit := ()
noncomputable def Mine.hq.tw9083301775340355608 : Unit := ()
noncomputable def Mine.hq.tw4666310112322607275 : Unit := ()
noncomputable def Mine.hq.tw2640350884122359693 : Unit := ()
noncomputable def Mine.hq.tw674073021615805732 : Unit := ()
noncomputable def Mine.hq.tw17898694294893645590 : Unit := ()
noncomputable def Mine.hq.tw13316007477278045594 : Unit := ()
noncomputable def Mine.hq.tw8092459957483288813 : Unit := ()
noncomputable def Mine.hq.tw13845941901214440821 : Unit := ()
noncomputable def Mine.hq.tw14772127340083367040 : Unit := ()
noncomputable def Mine.hq.tw7253851005133477568 : Unit := ()
noncomputable def Mine.hq.tw3560430997919898871 : Unit := ()
noncomputable def Mine.hq.tw4346122449067867847 : Unit := ()
noncomputable def Mine.hq.tw12481044172393887954 : Unit := ()
noncomputable def Mine.hq.tw13100683107442814338 : Unit := ()
noncomputable def Mine.hq.tw1700315315751232304 : Unit := ()
noncomputable def Mine.hq.tw4057580815170638606 : Unit := ()
noncomputable def Mine.hq.tw18442532955660031598 : Unit := ()
noncomputable def Mine.hq.tw15662360331022282458 : Unit := ()
noncomputable def Mine.hq.tw12194737614571838824 : Unit := ()
noncomputable def Mine.hq.tw7527418259463458165 : Unit := ()
noncomputable def Mine.hq.tw13328776239465341797 : Unit := ()
noncomputable def Mine.hq.tw2757439949053186533 : Unit := ()
noncomputable def Mine.hq.tw8331520620733812097 : Unit := ()
noncomputable def Mine.hq.tw13604076548809337595 : Unit := ()
noncomputable def Mine.hq.tw7511721461442411465 : Unit := ()
noncomputable def Mine.hq.tw3211473203395817243 : Unit := ()
noncomputable def Mine.hq.tw3313988557390523843 : Unit := ()
noncomputable def Mine.hq.tw2050150026035442444 : Unit := ()
noncomputable def Mine.hq.tw9428886027724084596 : Unit := ()
noncomputable def Mine.hq.tw18340721319590389962 : Unit := ()
noncomputable def Mine.hq.tw17540491859594836655 : Unit := ()
noncomputable def Mine.hq.tw9612742909652353465 : Unit := ()
noncomputable def Mine.hq.tw17884644973305957733 : Unit := ()
noncomputable def Mine.hq.tw2060327042702796305 : Unit := ()
noncomputable def Mine.hq.tw13029019406344279537 : Unit := ()
noncomputable def Mine.hq.tw1010776712413736996 : Unit := ()
noncomputable def Mine.hq.tw3480666100315175299 : Unit := ()
noncomputable def Mine.hq.tw5914124745671280715 : Unit := ()
noncomputable def Mine.hq.tw14353095049506806319 : Unit := ()
noncomputable def Mine.hq.tw2996563815162090415 : Unit := ()
noncomputable def Mine.hq.tw16859135698762811212 : Unit := ()
noncomputable def Mine.hq.tw3491428954475440883 : Unit := ()
noncomputable def Mine.hq.tw11341742245578585151 : Unit := ()
noncomputable def Mine.hq.tw10187816474469822774 : Unit := ()
noncomputable def Mine.hq.tw5731166914374295624 : Unit := ()
noncomputable def Mine.hq.tw12889914191371890957 : Unit := ()
noncomputable def Mine.hq.tw10000794576204330153 : Unit := ()
noncomputable def Mine.hq.tw37697335950043382 : Unit := ()
noncomputable def Mine.hq.tw722643689031310280 : Unit := ()
noncomputable def Mine.hq.tw15050050835727825964 : Unit := ()
noncomputable def Mine.hq.tw3154463578298619625 : Unit := ()
noncomputable def Mine.hq.tw13873720479908739350 : Unit := ()
noncomputable def Mine.hq.tw6118443615581677530 : Unit := ()
noncomputable def Mine.hq.tw6815685841524224632 : Unit := ()
noncomputable def Mine.hq.tw7943177803539212061 : Unit := ()
noncomputable def Mine.hq.tw540485975783732659 : Unit := ()
noncomputable def Mine.hq.tw13495405613607610781 : Unit := ()
noncomputable def Mine.hq.tw16346589141790774059 : Unit := ()
noncomputable def Mine.hq.tw13959481576897727349 : Unit := ()
noncomputable def Mine.hq.tw11150044685417158869 : Unit := ()
noncomputable def Mine.hq.tw17191537605157243135 : Unit := ()
noncomputable def Mine.hq.tw1945927827826211355 : Unit := ()
noncomputable def Mine.hq.tw12617662541128001882 : Unit := ()
noncomputable def Mine.hq.tw4991336011138955280 : Unit := ()
noncomputable def Mine.hq.tw13450832908405550097 : Unit := ()
noncomputable def Mine.hq.tw17285935106449791253 : Unit := ()
noncomputable def Mine.hq.tw10092852166775279130 : Unit := ()
noncomputable def Mine.hq.tw9763324061818089090 : Unit := ()
noncomputable def Mine.hq.tw9375045823711978607 : Unit := ()
noncomputable def Mine.hq.tw13058460094631807453 : Unit := ()
noncomputable def Mine.hq.tw4167004640589313651 : Unit := ()
noncomputable def Mine.hq.tw3014720679539756873 : Unit := ()
noncomputable def Mine.hq.tw8049949838826251480 : Unit := ()
noncomputable def Mine.hq.tw3948010854130097229 : Unit := ()
noncomputable def Mine.hq.tw926538531027841127 : Unit := ()
noncomputable def Mine.hq.tw12590562862586613239 : Unit := ()
noncomputable def Mine.hq.tw13943852286573993618 : Unit := ()
noncomputable def Mine.hq.tw4194152291734139813 : Unit := ()
noncomputable def Mine.hq.tw11402776170388669038 : Unit := ()
noncomputable def Mine.hq.tw12939260477051835880 : Unit := ()
noncomputable def Mine.hq.tw4489070043729951717 : Unit := ()
noncomputable def Mine.hq.tw11955610403688730753 : Unit := ()
noncomputable def Mine.hq.tw18128651314836474255 : Unit := ()
noncomputable def Mine.hq.tw3478883397168826629 : Unit := ()
noncomputable def Mine.hq.tw12428739965439566872 : Unit := ()
noncomputable def Mine.hq.tw14641220288254092781 : Unit := ()
noncomputable def Mine.hq.tw2505651065827292706 : Unit := ()
noncomputable def Mine.hq.tw16637177162505234527 : Unit := ()
noncomputable def Mine.hq.tw5102381659091134590 : Unit := ()
noncomputable def Mine.hq.tw15281599693950754896 : Unit := ()
noncomputable def Mine.hq.tw16867273931720873272 : Unit := ()
noncomputable def Mine.hq.tw13001207721643841512 : Unit := ()
noncomputable def Mine.hq.tw9978726442917373551 : Unit := ()
noncomputable def Mine.hq.tw7079364385445073895 : Unit := ()
noncomputable def Mine.hq.tw17313500477962296120 : Unit := ()
noncomputable def Mine.hq.tw6492908563196855892 : Unit := ()
noncomputable def Mine.hq.tw15170669351824557439 : Unit := ()
noncomputable def Mine.hq.tw9549253132143110608 : Unit := ()
noncomputable def Mine.hq.tw18346841983034571262 : Unit := ()
noncomputable def Mine.hq.tw1140332349131322219 : Unit := ()
noncomputable def Mine.hq.tw1456264375257627886 : Unit := ()
noncomputable def Mine.hq.tw4686820803330961116 : Unit := ()
noncomputable def Mine.hq.tw7740853044027385959 : Unit := ()
noncomputable def Mine.hq.tw13398516417001538080 : Unit := ()
noncomputable def Mine.hq.tw4370756905753289110 : Unit := ()
noncomputable def Mine.hq.tw12485548662368916749 : Unit := ()
noncomputable def Mine.hq.tw16086767934403656065 : Unit := ()
noncomputable def Mine.hq.tw13621952590756119965 : Unit := ()
noncomputable def Mine.hq.tw4848108807988124131 : Unit := ()
noncomputable def Mine.hq.tw7441071891799560861 : Unit := ()
noncomputable def Mine.hq.tw3113053290549708648 : Unit := ()
noncomputable def Mine.hq.tw13133925777924542315 : Unit := ()
noncomputable def Mine.hq.tw8280607470232188737 : Unit := ()
noncomputable def Mine.hq.tw13502862691939865659 : Unit := ()
noncomputable def Mine.hq.tw13486078771128344647 : Unit := ()
noncomputable def Mine.hq.tw2338785445158028428 : Unit := ()
noncomputable def Mine.hq.tw1383527236628300131 : Unit := ()
noncomputable def Mine.hq.tw781474288783034380 : Unit := ()
noncomputable def Mine.hq.tw8813382931127158424 : Unit := ()
noncomputable def Mine.hq.tw18377318545847360015 : Unit := ()
noncomputable def Mine.hq.tw8149433206854638965 : Unit := ()
noncomputable def Mine.hq.tw7850188486041987321 : Unit := ()
noncomputable def Mine.hq.tw771947914003707973 : Unit := ()
noncomputable def Mine.hq.tw16549860719943262585 : Unit := ()
noncomputable def Mine.hq.tw9011243111761860492 : Unit := ()
noncomputable def Mine.hq.tw14587594007023303460 : Unit := ()
noncomputable def Mine.hq.tw17389483476063430775 : Unit := ()
noncomputable def Mine.hq.tw6703137428290144329 : Unit := ()
noncomputable def Mine.hq.tw2223705977466217327 : Unit := ()
noncomputable def Mine.hq.tw15256828576862472125 : Unit := ()
noncomputable def Mine.hq.tw2892858402054980869 : Unit := ()
noncomputable def Mine.hq.tw9665148385174541716 : Unit := ()
noncomputable def Mine.hq.tw16151568421955211893 : Unit := ()
noncomputable def Mine.hq.tw10844470459063464443 : Unit := ()
noncomputable def Mine.hq.tw15896099956925684509 : Unit := ()
noncomputable def Mine.hq.tw9950089704063908547 : Unit := ()
noncomputable def Mine.hq.tw5742662043996966024 : Unit := ()
noncomputable def Mine.hq.tw8308388744524497552 : Unit := ()
noncomputable def Mine.hq.tw7442177523960112853 : Unit := ()
noncomputable def Mine.hq.tw4375985329216827839 : Unit := ()
noncomputable def Mine.hq.tw11824069836422780227 : Unit := ()
noncomputable def Mine.hq.tw18276807595065023739 : Unit := ()
noncomputable def Mine.hq.tw16316352616789880349 : Unit := ()
noncomputable def Mine.hq.tw17417107624613210504 : Unit := ()
noncomputable def Mine.hq.tw15385585939819168887 : Unit := ()
noncomputable def Mine.hq.tw17813219087281387963 : Unit := ()
noncomputable def Mine.hq.tw9768242074103074221 : Unit := ()
noncomputable def Mine.hq.tw17577272718891032105 : Unit := ()
noncomputable def Mine.hq.tw14375828484873233585 : Unit := ()
noncomputable def Mine.hq.tw16159351471143568841 : Unit := ()
noncomputable def Mine.hq.tw7795197914602774408 : Unit := ()
noncomputable def Mine.hq.tw10914737284747560342 : Unit := ()
noncomputable def Mine.hq.tw11026613734559132634 : Unit := ()
noncomputable def Mine.hq.tw9025512103472134450 : Unit := ()
noncomputable def Mine.hq.tw8450402668565357264 : Unit := ()
noncomputable def Mine.hq.tw7723358927924880359 : Unit := ()
noncomputable def Mine.hq.tw17719787235402466642 : Unit := ()
noncomputable def Mine.hq.tw4741875132220596311 : Unit := ()
noncomputable def Mine.hq.tw15128057367272848166 : Unit := ()
noncomputable def Mine.hq.tw8410567256526332828 : Unit := ()
noncomputable def Mine.hq.tw4724890111835787062 : Unit := ()
noncomputable def Mine.hq.tw10340674731281136786 : Unit := ()
noncomputable def Mine.hq.tw284400762109262134 : Unit := ()
noncomputable def Mine.hq.tw10240522916743850443 : Unit := ()
noncomputable def Mine.hq.tw7124110289175886657 : Unit := ()
noncomputable def Mine.hq.tw10312157954276465073 : Unit := ()
noncomputable def Mine.hq.tw15944341401679933261 : Unit := ()
noncomputable def Mine.hq.tw13806801850589744240 : Unit := ()
noncomputable def Mine.hq.tw12728415866068041311 : Unit := ()
noncomputable def Mine.hq.tw1638822145128172880 : Unit := ()
noncomputable def Mine.hq.tw13169572222614648372 : Unit := ()
noncomputable def Mine.hq.tw5582761554524759094 : Unit := ()
noncomputable def Mine.hq.tw1356178445314535933 : Unit := ()
noncomputable def Mine.hq.tw9493725803484967530 : Unit := ()
noncomputable def Mine.hq.tw15752517208743610924 : Unit := ()
noncomputable def Mine.hq.tw8698537833381394938 : Unit := ()
noncomputable def Mine.hq.tw10189871300808820423 : Unit := ()
noncomputable def Mine.hq.tw13538046220882042919 : Unit := ()
noncomputable def Mine.hq.tw17191050232335479264 : Unit := ()
noncomputable def Mine.hq.tw8073309143868657023 : Unit := ()
noncomputable def Mine.hq.tw10384215637601404327 : Unit := ()
noncomputable def Mine.hq.tw18201938650840483205 : Unit := ()
noncomputable def Mine.hq.tw5991825269154617347 : Unit := ()
noncomputable def Mine.hq.tw8095056757232527380 : Unit := ()
noncomputable def Mine.hq.tw13201679970922164330 : Unit := ()
noncomputable def Mine.hq.tw13468631102399112637 : Unit := ()
noncomputable def Mine.hq.tw12463699929421395298 : Unit := ()
noncomputable def Mine.hq.tw16807017868417353128 : Unit := ()
noncomputable def Mine.hq.tw16964586414034191684 : Unit := ()
noncomputable def Mine.hq.tw10001376382149582108 : Unit := ()
noncomputable def Mine.hq.tw9659669307319190640 : Unit := ()
noncomputable def Mine.hq.tw14237485161361176573 : Unit := ()
noncomputable def Mine.hq.tw10630391147137001860 : Unit := ()
noncomputable def Mine.hq.tw4371991447599467917 : Unit := ()
noncomputable def Mine.hq.tw15976676881008073619 : Unit := ()
noncomputable def Mine.hq.tw6156483766952535384 : Unit := ()
noncomputable def Mine.hq.tw10952823829123372175 : Unit := ()
noncomputable def Mine.hq.tw13886267558521391256 : Unit := ()
noncomputable def Mine.hq.tw3858470327796980622 : Unit := ()
noncomputable def Mine.hq.tw195319319105484837 : Unit := ()
noncomputable def Mine.hq.tw8635002137240528865 : Unit := ()
noncomputable def Mine.hq.tw7907064084398135858 : Unit := ()
noncomputable def Mine.hq.tw4115226851099395319 : Unit := ()
noncomputable def Mine.hq.tw860166213271251909 : Unit := ()
noncomputable def Mine.hq.tw9954246468241796668 : Unit := ()
noncomputable def Mine.hq.tw18250771422189292895 : Unit := ()
noncomputable def Mine.hq.tw14287419288450536493 : Unit := ()
noncomputable def Mine.hq.tw10723133140268546484 : Unit := ()
noncomputable def Mine.hq.tw15079305990305215762 : Unit := ()
noncomputable def Mine.hq.tw17480515895037040760 : Unit := ()
noncomputable def Mine.hq.tw16461190282297930926 : Unit := ()
noncomputable def Mine.hq.tw15629568606158070697 : Unit := ()
noncomputable def Mine.hq.tw6336642640299219094 : Unit := ()
noncomputable def Mine.hq.tw3616478996217396334 : Unit := ()
noncomputable def Mine.hq.tw1775702854415158705 : Unit := ()
noncomputable def Mine.hq.tw7589107396602480322 : Unit := ()
noncomputable def Mine.hq.tw11550264267855334806 : Unit := ()
noncomputable def Mine.hq.tw4439803078412725676 : Unit := ()
noncomputable def Mine.hq.tw16498171049323729267 : Unit := ()
noncomputable def Mine.hq.tw16003533353896068565 : Unit := ()
noncomputable def Mine.hq.tw9276792759960484386 : Unit := ()
noncomputable def Mine.hq.tw4950995695539448390 : Unit := ()
noncomputable def Mine.hq.tw5186555515663700001 : Unit := ()
noncomputable def Mine.hq.tw16240424374227401199 : Unit := ()
noncomputable def Mine.hq.tw2568601839324270733 : Unit := ()
noncomputable def Mine.hq.tw4026668784279576677 : Unit := ()
noncomputable def Mine.hq.tw11976943583522984290 : Unit := ()
noncomputable def Mine.hq.tw7587259842506438161 : Unit := ()
noncomputable def Mine.hq.tw11895432268523212573 : Unit := ()
noncomputable def Mine.hq.tw3647894231261621685 : Unit := ()
noncomputable def Mine.hq.tw925611148017520223 : Unit := ()
noncomputable def Mine.hq.tw5613207279310253425 : Unit := ()
noncomputable def Mine.hq.tw16325697439411301246 : Unit := ()
noncomputable def Mine.hq.tw10557348633716791549 : Unit := ()
noncomputable def Mine.hq.tw2446711658860428672 : Unit := ()
noncomputable def Mine.hq.tw14567226737135143758 : Unit := ()
noncomputable def Mine.hq.tw15730856760783793826 : Unit := ()
noncomputable def Mine.hq.tw8474040522217814807 : Unit := ()
noncomputable def Mine.hq.tw533107537510362154 : Unit := ()
noncomputable def Mine.hq.tw8201169055858481340 : Unit := ()
noncomputable def Mine.hq.tw13139415309826760691 : Unit := ()
noncomputable def Mine.hq.tw11526994993299814718 : Unit := ()
noncomputable def Mine.hq.tw5740101952899550972 : Unit := ()
noncomputable def Mine.hq.tw16721007635770491178 : Unit := ()
noncomputable def Mine.hq.tw2921467058064614194 : Unit := ()
noncomputable def Mine.hq.tw3627233070818523257 : Unit := ()
noncomputable def Mine.hq.tw1658547955452154472 : Unit := ()
noncomputable def Mine.hq.tw4665913176990191628 : Unit := ()
noncomputable def Mine.hq.tw5219493252240457098 : Unit := ()
noncomputable def Mine.hq.tw1052231730491438768 : Unit := ()
noncomputable def Mine.hq.tw14969264746431923806 : Unit := ()
noncomputable def Mine.hq.tw15384583018462078416 : Unit := ()
noncomputable def Mine.hq.tw12235868485125894331 : Unit := ()
noncomputable def Mine.hq.tw18227684946361417376 : Unit := ()
noncomputable def Mine.hq.tw5131631581878701464 : Unit := ()
noncomputable def Mine.hq.tw15952631729719037887 : Unit := ()
noncomputable def Mine.hq.tw14779522487330186345 : Unit := ()
noncomputable def Mine.hq.tw6779031772722224722 : Unit := ()
noncomputable def Mine.hq.tw16110583700999037536 : Unit := ()
noncomputable def Mine.hq.tw384518735521986950 : Unit := ()
noncomputable def Mine.hq.tw8267469052338804902 : Unit := ()
noncomputable def Mine.hq.tw379356346375252177 : Unit := ()
noncomputable def Mine.hq.tw17688041192245645826 : Unit := ()
noncomputable def Mine.hq.tw17939040331521840985 : Unit := ()
noncomputable def Mine.hq.tw10010650081863701617 : Unit := ()
noncomputable def Mine.hq.tw16936868174623810526 : Unit := ()
noncomputable def Mine.hq.tw15491281439746748380 : Unit := ()
noncomputable def Mine.hq.tw14768286036203141162 : Unit := ()
noncomputable def Mine.hq.tw2320559199587278016 : Unit := ()
noncomputable def Mine.hq.tw8843670863553936208 : Unit := ()
noncomputable def Mine.hq.tw13991502105691641572 : Unit := ()
noncomputable def Mine.hq.tw5070146122541468937 : Unit := ()
noncomputable def Mine.hq.tw12417311007122829836 : Unit := ()
noncomputable def Mine.hq.tw193804917870597374 : Unit := ()
noncomputable def Mine.hq.tw1569526789006978644 : Unit := ()
noncomputable def Mine.hq.tw16782676387622030179 : Unit := ()
noncomputable def Mine.hq.tw4498321342021566067 : Unit := ()
noncomputable def Mine.hq.tw2243026505292772111 : Unit := ()
noncomputable def Mine.hq.tw13605588708827000737 : Unit := ()
noncomputable def Mine.hq.tw6304881022484498786 : Unit := ()
noncomputable def Mine.hq.tw8354039903107843285 : Unit := ()
noncomputable def Mine.hq.tw17486772711794031567 : Unit := ()
noncomputable def Mine.hq.tw7128186512092943417 : Unit := ()
noncomputable def Mine.hq.tw12408967101337845927 : Unit := ()
noncomputable def Mine.hq.tw6693717068639252140 : Unit := ()
noncomputable def Mine.hq.tw10808934275972336993 : Unit := ()
noncomputable def Mine.hq.tw14544256373392573544 : Unit := ()
noncomputable def Mine.hq.tw8114841426480393502 : Unit := ()
noncomputable def Mine.hq.tw14187982978997237623 : Unit := ()
noncomputable def Mine.hq.tw4288558672954378248 : Unit := ()
noncomputable def Mine.hq.tw1500719978199872653 : Unit := ()
noncomputable def Mine.hq.tw7943481926809457172 : Unit := ()
noncomputable def Mine.hq.tw12892139197361222039 : Unit := ()
noncomputable def Mine.hq.tw16046787055161014137 : Unit := ()
noncomputable def Mine.hq.tw13835040335912294723 : Unit := ()
noncomputable def Mine.hq.tw12224511430472119265 : Unit := ()
noncomputable def Mine.hq.tw10366571678140251363 : Unit := ()
noncomputable def Mine.hq.tw7902054454379397355 : Unit := ()
noncomputable def Mine.hq.tw11783041668728716736 : Unit := ()
noncomputable def Mine.hq.tw14886498140707089192 : Unit := ()
noncomputable def Mine.hq.tw4797868753551183999 : Unit := ()
noncomputable def Mine.hq.tw9031073068422697509 : Unit := ()
noncomputable def Mine.hq.tw4700772123730980896 : Unit := ()
noncomputable def Mine.hq.tw12219819207030029821 : Unit := ()
noncomputable def Mine.hq.tw7001449593517186714 : Unit := ()
noncomputable def Mine.hq.tw8878085667783850231 : Unit := ()
noncomputable def Mine.hq.tw5080482457446688561 : Unit := ()
noncomputable def Mine.hq.tw13370623703081640355 : Unit := ()
noncomputable def Mine.hq.tw9117675943426644266 : Unit := ()
noncomputable def Mine.hq.tw9616370734746824208 : Unit := ()
noncomputable def Mine.hq.tw13127699335793737955 : Unit := ()
noncomputable def Mine.hq.tw16653776548582141348 : Unit := ()
noncomputable def Mine.hq.tw1560922779193176835 : Unit := ()
noncomputable def Mine.hq.tw17490343775666085965 : Unit := ()
noncomputable def Mine.hq.tw3702623868654441055 : Unit := ()
noncomputable def Mine.hq.tw9381266235724177792 : Unit := ()
noncomputable def Mine.hq.tw2023342415286700836 : Unit := ()
noncomputable def Mine.hq.tw8632563731568542535 : Unit := ()
noncomputable def Mine.hq.tw13946695615888808057 : Unit := ()
noncomputable def Mine.hq.tw11603209444005165735 : Unit := ()
noncomputable def Mine.hq.tw10899058296728633960 : Unit := ()
noncomputable def Mine.hq.tw7429005892963545473 : Unit := ()
noncomputable def Mine.hq.tw11791545582610639451 : Unit := ()
noncomputable def Mine.hq.tw8172153524177814700 : Unit := ()
noncomputable def Mine.hq.tw639632618262785173 : Unit := ()
noncomputable def Mine.hq.tw8062890331336429170 : Unit := ()
noncomputable def Mine.hq.tw2609510587700438405 : Unit := ()
noncomputable def Mine.hq.tw3279247951013379325 : Unit := ()
noncomputable def Mine.hq.tw17982033904585381360 : Unit := ()
noncomputable def Mine.hq.tw1710684574680506057 : Unit := ()
noncomputable def Mine.hq.tw6815287188669290861 : Unit := ()
noncomputable def Mine.hq.tw15136850233242887438 : Unit := ()
noncomputable def Mine.hq.tw1111263606911284345 : Unit := ()
noncomputable def Mine.hq.tw6880270121769775229 : Unit := ()
noncomputable def Mine.hq.tw9188848632486924633 : Unit := ()
noncomputable def Mine.hq.tw4222511593086879587 : Unit := ()
noncomputable def Mine.hq.tw13510361038845904283 : Unit := ()
noncomputable def Mine.hq.tw2214581351128497116 : Unit := ()
noncomputable def Mine.hq.tw6831830282658272535 : Unit := ()
noncomputable def Mine.hq.tw6544732300459080682 : Unit := ()
noncomputable def Mine.hq.tw430407546983676048 : Unit := ()
noncomputable def Mine.hq.tw15499493932771899486 : Unit := ()
noncomputable def Mine.hq.tw4908422779371267114 : Unit := ()
noncomputable def Mine.hq.tw10515724994809746482 : Unit := ()
noncomputable def Mine.hq.tw16193364487119611749 : Unit := ()
noncomputable def Mine.hq.tw1640272328417397822 : Unit := ()
noncomputable def Mine.hq.tw13101453209156903288 : Unit := ()
noncomputable def Mine.hq.tw16700103266205983162 : Unit := ()
noncomputable def Mine.hq.tw1148625622953004833 : Unit := ()
noncomputable def Mine.hq.tw13023949505232002771 : Unit := ()
noncomputable def Mine.hq.tw5253665795339500904 : Unit := ()
noncomputable def Mine.hq.tw5129941491527690725 : Unit := ()
noncomputable def Mine.hq.tw4330991180929535625 : Unit := ()
noncomputable def Mine.hq.tw14680810799054715792 : Unit := ()
noncomputable def Mine.hq.tw15465583547859376084 : Unit := ()
noncomputable def Mine.hq.tw3926655162136758824 : Unit := ()
noncomputable def Mine.hq.tw8954724947790862241 : Unit := ()
noncomputable def Mine.hq.tw3406242299724796062 : Unit := ()
noncomputable def Mine.hq.tw13276833702047066570 : Unit := ()
noncomputable def Mine.hq.tw4865120608202669494 : Unit := ()
noncomputable def Mine.hq.tw9366186876789818649 : Unit := ()
noncomputable def Mine.hq.tw3858204857450945017 : Unit := ()
noncomputable def Mine.hq.tw8670592598250618684 : Unit := ()
noncomputable def Mine.hq.tw4003514286515377017 : Unit := ()
noncomputable def Mine.hq.tw2560700109060252924 : Unit := ()
noncomputable def Mine.hq.tw5665385369643039098 : Unit := ()
noncomputable def Mine.hq.tw15679604011437034704 : Unit := ()
noncomputable def Mine.hq.tw8926073059922265167 : Unit := ()
noncomputable def Mine.hq.tw11747441341411472974 : Unit := ()
noncomputable def Mine.hq.tw3048173636268286377 : Unit := ()
noncomputable def Mine.hq.tw8750641756726664098 : Unit := ()
noncomputable def Mine.hq.tw17715228584645818311 : Unit := ()
noncomputable def Mine.hq.tw17543646024803572876 : Unit := ()
noncomputable def Mine.hq.tw4214643438969434645 : Unit := ()
noncomputable def Mine.hq.tw15276287227970242661 : Unit := ()
noncomputable def Mine.hq.tw2147655035671245215 : Unit := ()
noncomputable def Mine.hq.tw5831826152446136541 : Unit := ()
noncomputable def Mine.hq.tw14966426000575208034 : Unit := ()
noncomputable def Mine.hq.tw14516230474931193788 : Unit := ()
noncomputable def Mine.hq.tw319490229744429039 : Unit := ()
noncomputable def Mine.hq.tw10371403677947509614 : Unit := ()
noncomputable def Mine.hq.tw15248956921075036628 : Unit := ()
noncomputable def Mine.hq.tw559891337692894694 : Unit := ()
noncomputable def Mine.hq.tw8016986591111299822 : Unit := ()
noncomputable def Mine.hq.tw8094907942427954523 : Unit := ()
noncomputable def Mine.hq.tw9011297252748127280 : Unit := ()
noncomputable def Mine.hq.tw9876288160915811745 : Unit := ()
noncomputable def Mine.hq.tw2230781832008922764 : Unit := ()
noncomputable def Mine.hq.tw17507516277433102289 : Unit := ()
noncomputable def Mine.hq.tw17725567851889491901 : Unit := ()
noncomputable def Mine.hq.tw2535131229827767169 : Unit := ()
noncomputable def Mine.hq.tw14243319542641745285 : Unit := ()
noncomputable def Mine.hq.tw11763958687534869680 : Unit := ()
noncomputable def Mine.hq.tw13976329359730278593 : Unit := ()
noncomputable def Mine.hq.tw10193580565110878322 : Unit := ()
noncomputable def Mine.hq.tw828373266779266601 : Unit := ()
noncomputable def Mine.hq.tw9904924192073418881 : Unit := ()
noncomputable def Mine.hq.tw9646654085657702968 : Unit := ()
noncomputable def Mine.hq.tw15906405830009952519 : Unit := ()
noncomputable def Mine.hq.tw16041765032119523446 : Unit := ()
noncomputable def Mine.hq.tw11660552598173695988 : Unit := ()
noncomputable def Mine.hq.tw5578676019213602690 : Unit := ()
noncomputable def Mine.hq.tw13495492352098191164 : Unit := ()
noncomputable def Mine.hq.tw14322759412192637791 : Unit := ()
noncomputable def Mine.hq.tw2027774291776349942 : Unit := ()
noncomputable def Mine.hq.tw3880375719507622018 : Unit := ()
noncomputable def Mine.hq.tw11149061711742648548 : Unit := ()
noncomputable def Mine.hq.tw14036627289367018796 : Unit := ()
noncomputable def Mine.hq.tw5429477869994368367 : Unit := ()
noncomputable def Mine.hq.tw7940537527954018458 : Unit := ()
noncomputable def Mine.hq.tw15487811534215124188 : Unit := ()
noncomputable def Mine.hq.tw18064312367536619883 : Unit := ()
noncomputable def Mine.hq.tw9048559258887259956 : Unit := ()
noncomputable def Mine.hq.tw16367165154766714319 : Unit := ()
noncomputable def Mine.hq.tw2460405866545305436 : Unit := ()
noncomputable def Mine.hq.tw12551386086251720438 : Unit := ()
noncomputable def Mine.hq.tw3144720748307402903 : Unit := ()
noncomputable def Mine.hq.tw10183426290553673610 : Unit := ()
noncomputable def Mine.hq.tw15299981847786275131 : Unit := ()
noncomputable def Mine.hq.tw7574501811584800559 : Unit := ()
noncomputable def Mine.hq.tw3061969403100960489 : Unit := ()
noncomputable def Mine.hq.tw5613225447936847580 : Unit := ()
noncomputable def Mine.hq.tw9177684151223994519 : Unit := ()
noncomputable def Mine.hq.tw14810766176975304553 : Unit := ()
noncomputable def Mine.hq.tw14065372797180803292 : Unit := ()
noncomputable def Mine.hq.tw8783513367562574285 : Unit := ()
noncomputable def Mine.hq.tw9024074512309037242 : Unit := ()

section
open PySem PySem.W PyProof.Rows
set_option maxHeartbeats 0
set_option Elab.async true in
theorem Mine.hq : PySem.Challenge.rw_in0120_01.Holds := by
  w_on
  o_law
  k_head
  (case hw => w_witness2)
  intro w s₀ s₁ mg mb G Y fa o pm cd doc dV kV ho hd hcd hD hmg hg args vals as hpre hlay hrd hwl hlo
  have KX := km_in_of Y
  clear Y ho hd hcd hD
  refine Ground.open G ?_
  intro T B D TE TW
  clear B D TE TW G
  wrow_args hpre hlay hrd hwl hlo
  refine enter_call ?_
  refine Mine.law_ends (D := Mine.theAd) (p := 174) ?chk KX T.g T.b T.builtins T.nolimit T.nodigits hmg (by assumption) (by assumption) (by omega) fun h' tk kp => ?fin
  case chk => exact {
    range := by kernel_rfl
    len := by kernel_rfl
    sorted := by kernel_rfl
    str := by kernel_rfl
    tuple := by kernel_rfl
    enum := by kernel_rfl
    zip := by kernel_rfl
    list := by kernel_rfl
    object := by kernel_rfl
    isinst := by kernel_rfl
    ixerr := by kernel_rfl
    valerr := by kernel_rfl
    sld := ⟨by kernel_rfl, _, _, _, _, _, _, _, _, _, _, by with_unfolding_all rfl, by kernel_rfl⟩
    uld := ⟨by kernel_rfl, _, _, _, _, _, _, _, _, _, _, by with_unfolding_all rfl, by kernel_rfl⟩
    cmp := ⟨by kernel_rfl, _, _, _, _, _, _, _, _, _, _, by with_unfolding_all rfl, by kernel_rfl⟩
    cdp := ⟨by kernel_rfl, _, _, _, _, _, _, _, _, _, _, by with_unfolding_all rfl, by kernel_rfl⟩
    esc := ⟨by kernel_rfl, _, _, _, _, _, _, _, _, _, _, by with_unfolding_all rfl, by kernel_rfl⟩
    trl := ⟨by kernel_rfl, _, _, _, _, _, _, _, _, _, _, by with_unfolding_all rfl, by kernel_rfl⟩
    ifmt := ⟨by kernel_rfl, _, _, _, _, _, _, _, _, _, _, by with_unfolding_all rfl, by kernel_rfl⟩
    fmode := ⟨by kernel_rfl, _, _, _, _, _, _, _, _, _, _, by with_unfolding_all rfl, by kernel_rfl⟩
    bit := ⟨by kernel_rfl, _, _, _, _, _, _, _, _, _, _, by with_unfolding_all rfl, by kernel_rfl⟩
    signs := ⟨by kernel_rfl, _, _, _, _, _, _, _, _, _, _, by with_unfolding_all rfl, by kernel_rfl⟩
    named := ⟨by kernel_rfl, _, _, _, _, _, _, _, _, _, _, by with_unfolding_all rfl, by kernel_rfl⟩
    counted := ⟨by kernel_rfl, _, _, _, _, _, _, _, _, _, _, by with_unfolding_all rfl, by kernel_rfl⟩
    more := ⟨by kernel_rfl, _, _, _, _, _, _, _, _, _, _, by with_unfolding_all rfl, by kernel_rfl⟩
    right := ⟨by kernel_rfl, _, _, _, _, _, _, _, _, _, _, by with_unfolding_all rfl, by kernel_rfl⟩
    law := ⟨by kernel_rfl, _, _, _, _, _, _, _, _, _, _, by with_unfolding_all rfl, by kernel_rfl⟩
    ftab := ⟨by kernel_rfl, by kernel_rfl⟩
    chars := ⟨by kernel_rfl, by decide +kernel, by kernel_rfl⟩
    mis := ⟨by kernel_rfl, ⟨by kernel_rfl, by kernel_rfl, by kernel_rfl, ⟨_, _, _, _, by with_unfolding_all rfl, by kernel_rfl⟩, by kernel_rfl, by kernel_rfl, by kernel_rfl, by kernel_rfl, by kernel_rfl, by kernel_rfl, by kernel_rfl, by kernel_rfl, by kernel_rfl, by kernel_rfl, ⟨[], by kernel_rfl⟩⟩,
      _, _, _, _, _, _, _, _, _, _, by with_unfolding_all rfl, by kernel_rfl⟩ }
  case fin =>
    refine GoodW.toG ⟨.inl ⟨.bool true, .bool true, [], rfl, fun _ => rfl, .bool true, ?_, fun _ => ⟨List.nodup_nil, fun _ h => nomatch h⟩⟩, kp, rfl, ?_⟩
    · first | kernel_rfl | with_unfolding_all rfl
    · exact hg
end
theorem PySem.Challenge.cw_in0120_01_holds : PySem.Challenge.rw_in0120_01.Holds :=
  Mine.hq
