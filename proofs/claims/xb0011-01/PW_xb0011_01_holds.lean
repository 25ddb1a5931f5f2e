import PyProof.Rows.All
import Wide.All
import OpenK.AllK
import Wide.FinOn
import PySem.Challenge.RW_xb0011_01
section
open PySem PySem.W PyProof.Rows
set_option Elab.async false
namespace Mine
set_option maxRecDepth 100000
set_option maxHeartbeats 8000000
noncomputable def vw : Program := view Challenge.pw_xb0011_01 [1, 3, 4, 5, 7, 9, 10, 11, 12, 13, 14, 15]
theorem said : Challenge.rw_xb0011_01.wellSaid = true := by
  unfold OpenLaw.wellSaid
  exact (look_both (look_both (look_both (look_both (look_both (look_both (look_both (look_both (look_both (look_both (look_both (look_both (look_both (look_both (look_both (look_both (look_both (look_both (by decide +kernel) (by decide +kernel)) (by decide +kernel)) (by decide +kernel)) (by decide +kernel)) (by decide +kernel)) (by decide +kernel)) (by decide +kernel)) (by decide +kernel)) (by decide +kernel)) (by decide +kernel)) (by decide +kernel)) (by decide +kernel)) (by decide +kernel)) (by decide +kernel)) (by decide +kernel)) (by decide +kernel)) (by decide +kernel)) (by decide +kernel))
theorem law_of {l : OpenLaw} (ok : l.wellSaid = true) (h : l.row.Holds) : l.Holds := holds_law ok fun _ => h
theorem of_boot {p q : Program} {loose : List Str} {Xt : Shared → Bool} {α : Type} {Yf : Shared → α} {Ya : World → α} {N : Nat} {g0 : Bool} {H₀ : Params → Heap} {gs₀ : Array GenState} {d₀ : Drawn} {k₀ : Nat}
    (open_ : ∀ w : World, (fencedOpening treeTable p w N).map (fun s => (s.heap, s.gens, s.drawn, s.toks)) = some (H₀ w.params, gs₀, d₀, k₀))
    (h : ∀ (w : World) (os : OsState), (topFrom treeTable p w N ⟨H₀ w.params, gs₀, d₀, k₀, os⟩).map (fun s => (openSeen q loose (importedModules p.main.body) Xt g0 s, Yf s)) = some (openGood q loose, Ya w)) :
    LeftO p q loose Xt Yf Ya N g0 := fun w => by
  obtain ⟨⟨h', gs, d, k, os⟩, e, e'⟩ := Option.map_eq_some_iff.mp (open_ w)
  obtain ⟨rfl, rfl, rfl, rfl⟩ : h' = H₀ w.params ∧ gs = gs₀ ∧ d = d₀ ∧ k = k₀ := by simpa using e'
  unfold openEnds
  rw [e]
  exact h w os
theorem op : opening Challenge.rw_xb0011_01.row.prog = plainProg Challenge.rw_xb0011_01.row.prog.main.scope.names := by kernel_rfl
theorem fence : ∀ s, fenceModules? Challenge.rw_xb0011_01.row.prog s = some s := fun s => by kernel_rfl
local macro_rules | `(tactic| o_law) => `(tactic| refine law_of said ?_)
local macro_rules | `(tactic| o_head $H) => do
  let hw := Lean.mkIdent `hw
  let hc := Lean.mkIdent `hc
  `(tactic| refine holds_open (q := vw) (loose := []) (Xt := fun s => xlAt vw [] s && recOk [] s) (XP := XL vw []) (Yf := Hook.obs $H) (Ya := Hook.val $H) (YP := Hook.says $H) (N := 1978)
      (fun w => of_boot (p := Challenge.rw_xb0011_01.row.prog) (boot_open op (by decide) fence) (fun w os => by kernel_rfl) w) (Hook.of $H) (Hook.keeps $H) (fun s e => xl_of s (Bool.and_eq_true_iff.mp e).1) XL.keeps (by rfl) (by rfl) (by rfl)
      (fun s e => recFacts_of (Bool.and_eq_true_iff.mp e).2) (by rfl) (row_said said) (by decide +kernel) ⟨rfl, rfl, rfl, rfl, rfl, by decide +kernel⟩ ?$hw ?$hc)
open_top hd for PySem.Challenge.rw_xb0011_01
end Mine
end
section
open PySem PySem.W PyProof.Rows
set_option Elab.async false
namespace Mine
noncomputable abbrev prog : Program := Challenge.rw_xb0011_01.row.prog
noncomputable abbrev KF (w : World) : Frag := hd.heap_1 w.params

noncomputable def Ext (h h' : Heap) : Prop := ∀ b o, h.get? b = some o → h'.get? b = some o
theorem Ext.refl (h : Heap) : Ext h h := fun _ _ e => e
theorem Ext.trans {h h' h'' : Heap} (x : Ext h h') (y : Ext h' h'') : Ext h h'' := fun b o e => y b o (x b o e)

structure Base (w : World) (h₀ : Heap) : Prop where
  K : (KF w).In h₀
  T : ∃ p loose mg mb, TopRead p loose mg mb h₀
  C : CodeHd h₀ 111 107
  no : h₀.get? 107 = none
  bm : ∃ mg, h₀.Ns mainGlobals mg ∧ ∃ bm ob, mg "__builtins__" = some (.ref bm) ∧ bm ≠ builtinsNs ∧ h₀.get? bm = some ob ∧ ob.cls = .type "module" ∧ ob.dict = some builtinsNs ∧ ob.data = .plain

noncomputable def Walk : Prop := ∀ (w : World) (h₀ : Heap) (s : Shared) (l : Addr) (vs : List Value) (ns : List Int), Base w h₀ → Ext h₀ s.heap → s.gens = #[] →
  s.heap.get? 107 = some (tabObj #[]) → h₀.IsList l vs.toArray → IntsAre vs ns → ns.length ≤ 63 →
  wpAny (model prog w) callerA (call (.ref 146) [.ref l]) (fun v s' => v = .bool true ∧ Ext h₀ s'.heap ∧ GrownAt 107 s'.heap ∧ AllBare s'.gens ∧ s'.os = s.os) (fun _ _ => False) s

theorem IsList.ext {h h' : Heap} (x : Ext h h') {l : Addr} {vs : Array Value} (i : h.IsList l vs) : h'.IsList l vs :=
  let ⟨o, e, r⟩ := i; ⟨o, x _ _ e, r⟩

set_option maxRecDepth 100000 in
set_option maxHeartbeats 8000000 in
theorem reduce (W : Walk) : Challenge.rw_xb0011_01.Holds := hd (by
  k_fill
  intro w s₀ s₁ mg mb G Y fa o pm cd doc dV kV ho hd hcd hD hmg hg args vals as hpre hlay hrd hwl hlo
  have KX := km_in_of Y
  km_tabs Y
  have X := (Ground.X G).1
  have V := (Ground.X G).2
  refine Ground.open G ?_
  intro T B D TE TW
  km_lay T hmg ho hd cd
  have hfa : mg (Str.ofString "law") = some (.ref 146) := mg_of KX T.g (by kernel_rfl)
  have hfa' : mg (Str.ofString "law") = some (.ref fa) := hmg
  rw [hfa] at hfa'
  injection hfa' with e1
  injection e1 with e2
  subst e2
  clear hmg ho hd hcd hD hfa
  wrow_args hpre hlay hrd hwl hlo
  rename_i ns _ _ _ _ _ _ _ l vs _ hL _ _ _ hI _ hc2 hc1
  have hlen : ns.length ≤ 63 := by omega
  have hl' : (s₁.heap.hide 107).IsList l vs.toArray := by
    obtain ⟨o, e, r⟩ := hL
    refine ⟨o, ?_, r⟩
    rw [Heap.hide_ne _ (fun q => ?_)]
    · exact e
    · have := hT8 107 (.head _)
      rw [q, this] at e
      cases e
      cases r.1
  have ne : ∀ {b o}, s₁.heap.get? b = some o → o ≠ tabObj #[] → (s₁.heap.hide 107).get? b = some o := fun {b o} e hn => by
    rw [Heap.hide_ne _ (fun q => ?_)]
    · exact e
    · have := hT8 107 (.head _)
      rw [q, this] at e
      cases e
      exact hn rfl
  have TR := topRead_of T
  have h107 := hT8 107 (.head _)
  have C0 := (hT9 (111, 107) (.head _)).1
  have BB : Base w (s₁.heap.hide 107) := by
    refine ⟨?_, ⟨_, _, mg, mb, ?_, ?_, ?_, TR.builtins, TR.free⟩, ?_, Heap.hide_self _ _, ⟨mg, (ghost_top (tabs := [(111, 107)]) hT9 T).g, (ghost_top (tabs := [(111, 107)]) hT9 T).bmain⟩⟩
    · intro a o e
      rw [Heap.hide_ne _ (fun q => ?_)]
      · exact KX a o e
      · rw [q] at e
        have : (KF w).lookup 107 = none := by kernel_rfl
        rw [this] at e; cases e
    · exact (ghost_top (tabs := [(111, 107)]) hT9 T).g
    · exact (ghost_top (tabs := [(111, 107)]) hT9 T).b
    · exact (ghost_top (tabs := [(111, 107)]) hT9 T).nolimit
    · obtain ⟨o, vs, file, tf, flags, tg, inF, text, tt, e, r⟩ := C0
      refine ⟨o, vs, file, tf, flags, tg, inF, text, tt, ?_, r⟩
      exact ne e (fun q => by rw [q] at r; cases r.1)
  have ext0 : Ext (s₁.heap.hide 107) s₁.heap := fun b o e => Heap.of_hide e
  refine wpAny_mono (W w (s₁.heap.hide 107) s₁ l vs ns BB ext0 hg h107 hl' hI hlen) ?_ (fun _ _ f => f.elim)
  rintro v s' ⟨rfl, hx, hgr, hb, hos⟩
  refine ⟨.inl ⟨.bool true, .bool true, [], rfl, fun _ => rfl, .bool true, ?_, fun _ => ⟨.nil, fun _ h => nomatch h⟩⟩, ?_, hos, hb⟩
  · kernel_rfl
  · refine ⟨fun b o e => ?_, fun b o e => ?_⟩
    · by_cases q : b = 107
      · subst q
        rw [h107] at e; cases e
        obtain ⟨ps, hps⟩ := hgr
        refine .inr (.inl ⟨(C0.tab h107).isCodeTable, rfl, #[], ps, rfl, ?_⟩)
        rw [hps]; simp
      · exact .inl (hx b o (by rw [Heap.hide_ne _ q]; exact e))
    · by_cases q : b = 107
      · subst q
        obtain ⟨ps, hps⟩ := hgr
        exact ⟨_, hps⟩
      · exact ⟨o, hx b o (by rw [Heap.hide_ne _ q]; exact e)⟩)
theorem memc {α : Type} {a x : α} {l : List α} (h : a ∈ x :: l) : x = a ∨ a ∈ l := (List.mem_cons.mp h).imp_left Eq.symm
theorem mem1 {α : Type} {a x : α} (h : a ∈ [x]) : x = a := (List.mem_singleton.mp h).symm
theorem vals0 {α : Type} {P : List α → Prop} {l : List α} (h : l.length = 0) (k : P []) : P l := by
  rw [List.length_eq_zero_iff.mp h]; exact k
theorem vals1 {α : Type} {P : List α → Prop} {l : List α} (h : l.length = 1) (k : ∀ a, P [a]) : P l := by
  cases l with
  | nil => cases h
  | cons a l => exact vals0 (P := fun l => P (a :: l)) (Nat.succ.inj h) (k a)
theorem vals2 {α : Type} {P : List α → Prop} {l : List α} (h : l.length = 2) (k : ∀ a b, P [a, b]) : P l := by
  cases l with
  | nil => cases h
  | cons a l => exact vals1 (P := fun l => P (a :: l)) (Nat.succ.inj h) (k a)
theorem vals3 {α : Type} {P : List α → Prop} {l : List α} (h : l.length = 3) (k : ∀ a b c, P [a, b, c]) : P l := by
  cases l with
  | nil => cases h
  | cons a l => exact vals2 (P := fun l => P (a :: l)) (Nat.succ.inj h) (k a)
theorem vals4 {α : Type} {P : List α → Prop} {l : List α} (h : l.length = 4) (k : ∀ a b c d, P [a, b, c, d]) : P l := by
  cases l with
  | nil => cases h
  | cons a l => exact vals3 (P := fun l => P (a :: l)) (Nat.succ.inj h) (k a)
end Mine
end
section
open PySem PySem.W PyProof.Rows
set_option Elab.async false
namespace Mine

/-- data that the walk keeps track of -/
inductive D where
  | none
  | bool (b : Bool)
  | int (i : Int)
  | str (l : List Nat)
  | tup (l : List D)
  | lst (l : List D)
  | ref (a : Addr)
  | obj (C : Addr) (x : Str) (d : D)
  | map (f : Int → Option Int)
  deriving Inhabited

noncomputable abbrev St' (l : List Nat) : Str := ⟨l.toArray⟩

mutual
noncomputable def Rep (X : List Addr) (h : Heap) : D → Value → Prop
  | .none, v => v = .none
  | .bool b, v => v = .bool b
  | .int i, v => ∃ t, v = .int i t
  | .str l, v => ∃ t, v = .str ⟨l.toArray⟩ t
  | .tup ds, v => ∃ a vs, v = .ref a ∧ a ∉ X ∧ IsTup h a vs.toArray ∧ RepL X h ds vs
  | .lst ds, v => ∃ a vs, v = .ref a ∧ a ∉ X ∧ h.PlainList a vs.toArray ∧ RepL X h ds vs
  | .ref a, v => v = .ref a
  | .obj C x d, v => ∃ a dx hsh tk nn sl u, v = .ref a ∧ a ∉ X ∧ dx ∉ X ∧ h.get? a = some ⟨.ref C, some dx, .plain, sl⟩ ∧ h.get? dx = some (dictOf [⟨hsh, .str x tk, u⟩] nn) ∧ Rep X h d u
  | .map f, v => ∃ a g, v = .ref a ∧ a ∉ X ∧ h.IntMap a g ∧ ∀ k i, f k = some i → ∃ t, g k = some (.int i t)
noncomputable def RepL (X : List Addr) (h : Heap) : List D → List Value → Prop
  | [], vs => vs = []
  | d :: ds, vs => ∃ v r, vs = v :: r ∧ Rep X h d v ∧ RepL X h ds r
end

theorem RepL.nil {X h} : RepL X h [] [] := by unfold RepL; rfl
theorem RepL.cons {X h d ds v vs} (x : Rep X h d v) (y : RepL X h ds vs) : RepL X h (d :: ds) (v :: vs) := by
  unfold RepL; exact ⟨_, _, rfl, x, y⟩
theorem RepL.nil_iff {X h vs} : RepL X h [] vs ↔ vs = [] := by rw [RepL]
theorem RepL.cons_iff {X h d ds vs} : RepL X h (d :: ds) vs ↔ ∃ v r, vs = v :: r ∧ Rep X h d v ∧ RepL X h ds r := by rw [RepL]

noncomputable def ExtX (X : List Addr) (h h' : Heap) : Prop := ∀ b o, b ∉ X → h.get? b = some o → h'.get? b = some o
theorem Ext.toX {X h h'} (x : Ext h h') : ExtX X h h' := fun b o _ e => x b o e
theorem ExtX.nil {h h'} (x : ExtX [] h h') : Ext h h' := fun b o e => x b o (by simp) e
theorem ExtX.trans {X h h' h''} (x : ExtX X h h') (y : ExtX X h' h'') : ExtX X h h'' := fun b o n e => y b o n (x b o n e)
theorem ExtX.refl (X h) : ExtX X h h := fun _ _ _ e => e
theorem ExtX.mono {X Y h h'} (x : ExtX X h h') (s : ∀ a ∈ X, a ∈ Y) : ExtX Y h h' := fun b o n e => x b o (fun q => n (s _ q)) e

mutual
theorem Rep.extX {X : List Addr} {h h' : Heap} (k : ExtX X h h') : ∀ {d : D} {v : Value}, Rep X h d v → Rep X h' d v
  | .none, v, x => by rw [Rep] at x ⊢; exact x
  | .bool b, v, x => by rw [Rep] at x ⊢; exact x
  | .int i, v, x => by rw [Rep] at x ⊢; exact x
  | .str l, v, x => by rw [Rep] at x ⊢; exact x
  | .ref a, v, x => by rw [Rep] at x ⊢; exact x
  | .obj C nm d, v, x => by
    rw [Rep] at x ⊢
    obtain ⟨a, dx, hsh, tk, nn, sl, u, e, n1, n2, g1, g2, y⟩ := x
    exact ⟨a, dx, hsh, tk, nn, sl, u, e, n1, n2, k _ _ n1 g1, k _ _ n2 g2, Rep.extX k y⟩
  | .map f, v, x => by
    rw [Rep] at x ⊢
    obtain ⟨a, g, e, n, ⟨o, es, ep, ho, r⟩, y⟩ := x
    exact ⟨a, g, e, n, ⟨o, es, ep, k _ _ n ho, r⟩, y⟩
  | .tup ds, v, x => by
    rw [Rep] at x ⊢
    obtain ⟨a, vs, e, n, ⟨o, g, r⟩, y⟩ := x
    exact ⟨a, vs, e, n, ⟨o, k _ _ n g, r⟩, RepL.extX k y⟩
  | .lst ds, v, x => by
    rw [Rep] at x ⊢
    obtain ⟨a, vs, e, n, ⟨m, g⟩, y⟩ := x
    exact ⟨a, vs, e, n, ⟨m, k _ _ n g⟩, RepL.extX k y⟩
theorem RepL.extX {X : List Addr} {h h' : Heap} (k : ExtX X h h') : ∀ {ds : List D} {vs : List Value}, RepL X h ds vs → RepL X h' ds vs
  | [], vs, x => by rw [RepL] at x ⊢; exact x
  | d :: ds, vs, x => by
    rw [RepL] at x ⊢
    obtain ⟨v, r, e, a, b⟩ := x
    exact ⟨v, r, e, Rep.extX k a, RepL.extX k b⟩
end

mutual
/-- fewer forbidden addresses, or more that are not yet there -/
theorem Rep.reX {X Y : List Addr} {h : Heap} (k : ∀ a o, h.get? a = some o → a ∉ X → a ∉ Y) : ∀ {d : D} {v : Value}, Rep X h d v → Rep Y h d v
  | .none, v, x => by rw [Rep] at x ⊢; exact x
  | .bool b, v, x => by rw [Rep] at x ⊢; exact x
  | .int i, v, x => by rw [Rep] at x ⊢; exact x
  | .str l, v, x => by rw [Rep] at x ⊢; exact x
  | .ref a, v, x => by rw [Rep] at x ⊢; exact x
  | .obj C nm d, v, x => by
    rw [Rep] at x ⊢
    obtain ⟨a, dx, hsh, tk, nn, sl, u, e, n1, n2, g1, g2, y⟩ := x
    exact ⟨a, dx, hsh, tk, nn, sl, u, e, k _ _ g1 n1, k _ _ g2 n2, g1, g2, Rep.reX k y⟩
  | .map f, v, x => by
    rw [Rep] at x ⊢
    obtain ⟨a, g, e, n, ⟨o, es, ep, ho, r⟩, y⟩ := x
    exact ⟨a, g, e, k _ _ ho n, ⟨o, es, ep, ho, r⟩, y⟩
  | .tup ds, v, x => by
    rw [Rep] at x ⊢
    obtain ⟨a, vs, e, n, ⟨o, g, r⟩, y⟩ := x
    exact ⟨a, vs, e, k _ _ g n, ⟨o, g, r⟩, RepL.reX k y⟩
  | .lst ds, v, x => by
    rw [Rep] at x ⊢
    obtain ⟨a, vs, e, n, ⟨m, g⟩, y⟩ := x
    exact ⟨a, vs, e, k _ _ g n, ⟨m, g⟩, RepL.reX k y⟩
theorem RepL.reX {X Y : List Addr} {h : Heap} (k : ∀ a o, h.get? a = some o → a ∉ X → a ∉ Y) : ∀ {ds : List D} {vs : List Value}, RepL X h ds vs → RepL Y h ds vs
  | [], vs, x => by rw [RepL] at x ⊢; exact x
  | d :: ds, vs, x => by
    rw [RepL] at x ⊢
    obtain ⟨v, r, e, a, b⟩ := x
    exact ⟨v, r, e, Rep.reX k a, RepL.reX k b⟩
end

theorem Rep.ext {X h h' d v} (x : Rep X h d v) (k : Ext h h') : Rep X h' d v := x.extX k.toX
theorem RepL.ext {X h h' d v} (x : RepL X h d v) (k : Ext h h') : RepL X h' d v := x.extX k.toX
theorem Rep.less {X Y h d v} (x : Rep X h d v) (k : ∀ a ∈ Y, a ∈ X) : Rep Y h d v := x.reX fun _ _ _ n q => n (k _ q)
theorem RepL.less {X Y h d v} (x : RepL X h d v) (k : ∀ a ∈ Y, a ∈ X) : RepL Y h d v := x.reX fun _ _ _ n q => n (k _ q)
/-- addresses at or above the heap's end are in no datum -/
theorem Rep.more {X Y h d v} (x : Rep X h d v) (k : ∀ a ∈ Y, a ∈ X ∨ h.get? a = none) : Rep Y h d v := x.reX fun a o e n q => by
  rcases k a q with z | z
  · exact n z
  · rw [e] at z; cases z
theorem RepL.more {X Y h d v} (x : RepL X h d v) (k : ∀ a ∈ Y, a ∈ X ∨ h.get? a = none) : RepL Y h d v := x.reX fun a o e n q => by
  rcases k a q with z | z
  · exact n z
  · rw [e] at z; cases z

theorem RepL.length {X h} : ∀ {ds : List D} {vs : List Value}, RepL X h ds vs → vs.length = ds.length
  | [], vs, x => by rw [RepL] at x; rw [x]; rfl
  | d :: ds, vs, x => by
    rw [RepL] at x
    obtain ⟨v, r, e, a, b⟩ := x
    rw [e, List.length_cons, List.length_cons, b.length]
theorem RepL.get {X h} : ∀ {ds : List D} {vs : List Value}, RepL X h ds vs → ∀ {i : Nat} {d : D}, ds[i]? = some d → ∃ v, vs[i]? = some v ∧ Rep X h d v
  | [], vs, x, i, d, e => by simp at e
  | d' :: ds, vs, x, i, d, e => by
    rw [RepL] at x
    obtain ⟨v, r, rfl, a, b⟩ := x
    cases i with
    | zero => simp at e; subst e; exact ⟨v, rfl, a⟩
    | succ i => simp at e; obtain ⟨v', g, y⟩ := b.get e; exact ⟨v', by simpa using g, y⟩
theorem RepL.append {X h} : ∀ {ds es : List D} {vs ws : List Value}, RepL X h ds vs → RepL X h es ws → RepL X h (ds ++ es) (vs ++ ws)
  | [], es, vs, ws, x, y => by rw [RepL] at x; subst x; exact y
  | d :: ds, es, vs, ws, x, y => by
    rw [RepL] at x
    obtain ⟨v, r, rfl, a, b⟩ := x
    exact .cons a (b.append y)
theorem RepL.drop {X h} : ∀ {n : Nat} {ds : List D} {vs : List Value}, RepL X h ds vs → RepL X h (ds.drop n) (vs.drop n)
  | 0, ds, vs, x => x
  | n + 1, [], vs, x => by rw [RepL] at x; subst x; exact .nil
  | n + 1, d :: ds, vs, x => by
    rw [RepL] at x
    obtain ⟨v, r, rfl, a, b⟩ := x
    exact b.drop
theorem RepL.take {X h} : ∀ {n : Nat} {ds : List D} {vs : List Value}, RepL X h ds vs → RepL X h (ds.take n) (vs.take n)
  | 0, ds, vs, x => by simp; exact .nil
  | n + 1, [], vs, x => by rw [RepL] at x; subst x; exact .nil
  | n + 1, d :: ds, vs, x => by
    rw [RepL] at x
    obtain ⟨v, r, rfl, a, b⟩ := x
    exact .cons a b.take

/-! introduction and elimination -/
theorem Rep.int' {X h i t} : Rep X h (.int i) (.int i t) := by rw [Rep]; exact ⟨t, rfl⟩
theorem Rep.str' {X h l t} : Rep X h (.str l) (.str ⟨l.toArray⟩ t) := by rw [Rep]; exact ⟨t, rfl⟩
theorem Rep.bool' {X h b} : Rep X h (.bool b) (.bool b) := by rw [Rep]
theorem Rep.none' {X h} : Rep X h .none .none := by rw [Rep]
theorem Rep.ref' {X h a} : Rep X h (.ref a) (.ref a) := by rw [Rep]
theorem Rep.int_inv {X h i v} (x : Rep X h (.int i) v) : ∃ t, v = .int i t := by rw [Rep] at x; exact x
theorem Rep.str_inv {X h i v} (x : Rep X h (.str i) v) : ∃ t, v = .str ⟨i.toArray⟩ t := by rw [Rep] at x; exact x
theorem Rep.bool_inv {X h i v} (x : Rep X h (.bool i) v) : v = .bool i := by rw [Rep] at x; exact x
theorem Rep.none_inv {X h v} (x : Rep X h .none v) : v = .none := by rw [Rep] at x; exact x
theorem Rep.ref_inv {X h a v} (x : Rep X h (.ref a) v) : v = .ref a := by rw [Rep] at x; exact x
theorem Rep.obj_inv {X h C x d v} (y : Rep X h (.obj C x d) v) : ∃ a dx hsh tk nn sl u, v = .ref a ∧ a ∉ X ∧ dx ∉ X ∧ h.get? a = some ⟨.ref C, some dx, .plain, sl⟩ ∧ h.get? dx = some (dictOf [⟨hsh, .str x tk, u⟩] nn) ∧ Rep X h d u := by rw [Rep] at y; exact y
theorem Rep.map_inv {X h f v} (x : Rep X h (.map f) v) : ∃ a g, v = .ref a ∧ a ∉ X ∧ h.IntMap a g ∧ ∀ k i, f k = some i → ∃ t, g k = some (.int i t) := by rw [Rep] at x; exact x
theorem Rep.map' {X h a f g} (n : a ∉ X) (i : h.IntMap a g) (y : ∀ k i, f k = some i → ∃ t, g k = some (.int i t)) : Rep X h (.map f) (.ref a) := by rw [Rep]; exact ⟨a, g, rfl, n, i, y⟩
theorem Rep.tup_inv {X h ds v} (x : Rep X h (.tup ds) v) : ∃ a vs, v = .ref a ∧ a ∉ X ∧ IsTup h a vs.toArray ∧ RepL X h ds vs := by rw [Rep] at x; exact x
theorem Rep.lst_invP {X h ds v} (x : Rep X h (.lst ds) v) : ∃ a vs, v = .ref a ∧ a ∉ X ∧ h.PlainList a vs.toArray ∧ RepL X h ds vs := by rw [Rep] at x; exact x
theorem Rep.lst_inv {X h ds v} (x : Rep X h (.lst ds) v) : ∃ a vs, v = .ref a ∧ a ∉ X ∧ h.IsList a vs.toArray ∧ RepL X h ds vs := let ⟨a, vs, e, n, i, y⟩ := x.lst_invP; ⟨a, vs, e, n, i.isList, y⟩
theorem Rep.tup' {X h ds a vs} (n : a ∉ X) (i : IsTup h a vs.toArray) (y : RepL X h ds vs) : Rep X h (.tup ds) (.ref a) := by rw [Rep]; exact ⟨a, vs, rfl, n, i, y⟩
theorem Rep.lst' {X h ds a vs} (n : a ∉ X) (i : h.PlainList a vs.toArray) (y : RepL X h ds vs) : Rep X h (.lst ds) (.ref a) := by rw [Rep]; exact ⟨a, vs, rfl, n, i, y⟩

/-! steps of the state -/
structure Step (X : List Addr) (gs : List Nat) (s s' : Shared) : Prop where
  ext : ExtX X s.heap s'.heap
  os : s'.os = s.os
  bare : AllBare s.gens → AllBare s'.gens
  gen : ∀ g st, g ∉ gs → s.gens[g]? = some st → s'.gens[g]? = some st
  gsize : s.gens.size ≤ s'.gens.size

noncomputable abbrev Pure := Step [] []
theorem Step.refl (X gs s) : Step X gs s s := ⟨.refl _ _, rfl, id, fun _ _ _ e => e, Nat.le_refl _⟩
theorem Step.trans {X gs s s' s''} (x : Step X gs s s') (y : Step X gs s' s'') : Step X gs s s'' :=
  ⟨x.ext.trans y.ext, y.os.trans x.os, fun b => y.bare (x.bare b), fun g st n e => y.gen g st n (x.gen g st n e), Nat.le_trans x.gsize y.gsize⟩
theorem Step.mono {X Y gs hs s s'} (x : Step X gs s s') (k : ∀ a ∈ X, a ∈ Y) (k' : ∀ g ∈ gs, g ∈ hs) : Step Y hs s s' :=
  ⟨x.ext.mono k, x.os, x.bare, fun g st n e => x.gen g st (fun q => n (k' _ q)) e, x.gsize⟩
theorem Step.up {X gs s s'} (x : Pure s s') : Step X gs s s' := x.mono (by simp) (by simp)
theorem Step.pure {s s'} (x : Pure s s') : Ext s.heap s'.heap := x.ext.nil
/-- a step that changes only the heap (and the tokens) -/
theorem Step.heap {X : List Addr} {gs} {s : Shared} {h' : Heap} {tk : Nat} (k : ExtX X s.heap h') : Step X gs s { s with heap := h', toks := tk } :=
  ⟨k, rfl, id, fun _ _ _ e => e, Nat.le_refl _⟩
theorem Step.toks {X : List Addr} {gs} {s : Shared} {tk : Nat} : Step X gs s { s with toks := tk } := .heap (.refl _ _)
theorem Step.push {X : List Addr} {gs} {s : Shared} {o : Obj} {tk : Nat} : Step X gs s { s with heap := s.heap.push o, toks := tk } :=
  .heap (fun _ _ _ e => Heap.get?_push_of_some _ e)
theorem Step.but {X : List Addr} {gs} {s : Shared} {a : Addr} {h' : Heap} {tk : Nat} (k : Heap.SameBut a s.heap h') (m : a ∈ X) : Step X gs s { s with heap := h', toks := tk } :=
  .heap (fun b o n e => k.extBut b o (fun q => n (q ▸ m)) e)
theorem Step.extBut {X : List Addr} {gs} {s : Shared} {a : Addr} {h' : Heap} {tk : Nat} (k : Heap.ExtBut a s.heap h') (m : a ∈ X) : Step X gs s { s with heap := h', toks := tk } :=
  .heap (fun b o n e => k b o (fun q => n (q ▸ m)) e)

/-- the addresses are all in use -/
theorem extX_of_but {a : Addr} {h h' : Heap} (x : Heap.ExtBut a h h') : ExtX [a] h h' := fun b o n e => x b o (fun q => n (by simp [q])) e
noncomputable def Low (X : List Addr) (h : Heap) : Prop := ∀ a ∈ X, ∃ o, h.get? a = some o
theorem Low.ext {X h h'} (l : Low X h) (x : Ext h h') : Low X h' := fun a m => let ⟨o, e⟩ := l a m; ⟨o, x _ _ e⟩
theorem Low.extX {X Y h h'} (l : Low X h) (x : ExtX Y h h') (k : Low Y h') : Low X h' := fun a m => by
  by_cases q : a ∈ Y
  · exact k a q
  · obtain ⟨o, e⟩ := l a m; exact ⟨o, x _ _ q e⟩
theorem get_size (h : Heap) : h.get? h.objs.size = none := by
  cases e : h.get? h.objs.size with
  | none => rfl
  | some o => exact absurd (Heap.lt_size e) (Nat.lt_irrefl _)
theorem Low.fresh {X h} (l : Low X h) : h.objs.size ∉ X := fun q => by obtain ⟨o, e⟩ := l _ q; rw [get_size] at e; cases e
theorem Low.nil {h} : Low [] h := fun _ m => nomatch m
theorem Low.cons {X h a o} (e : h.get? a = some o) (l : Low X h) : Low (a :: X) h := fun b m => by
  rcases memc m with rfl | m
  · exact ⟨o, e⟩
  · exact l b m

/-- room for frames and C calls -/
structure Rm (n : Nat) (A : Around) : Prop where
  handled : A.handled = none
  depth : A.depth + n < recursionLimit
  units : A.units + 60 * n < cLine

theorem Rm.less {n m A} (x : Rm n A) (k : m ≤ n) : Rm m A := ⟨x.handled, by have := x.depth; lia, by have := x.units; lia⟩
theorem Rm.in1 {n A} (x : Rm (n + 1) A) : Rm n A.in1 := ⟨x.handled, by have := x.depth; show A.depth + n < _; lia, by have := x.units; show A.units + 1 + 60 * n < _; lia⟩
theorem Rm.deeper {n A env} (x : Rm (n + 1) A) : Rm n (A.deeper env) := ⟨x.handled, by have := x.depth; show A.depth + 1 + n < _; lia, by have := x.units; show A.units + 3 + 60 * n < _; lia⟩
theorem Rm.room {n A} (x : Rm n A) : A.depth < recursionLimit := by have := x.depth; lia
theorem Rm.line {n A} (x : Rm n A) : A.units < cLine := by have := x.units; lia
theorem Rm.caller : Rm 100 callerA := ⟨rfl, by decide, by decide⟩
end Mine
end
section
open PySem PySem.W PyProof.Rows
set_option Elab.async false
set_option linter.unusedVariables false
namespace Mine

structure Cx where
  w : World
  h₀ : Heap
  X : List Addr
  env : Env
  vs : List (Str × Option Addr)
  ds : List (Option D)

noncomputable abbrev Cx.M (c : Cx) : Model := model prog c.w
noncomputable abbrev Cx.set (c : Cx) (i : Nat) (d : D) : Cx := { c with ds := c.ds.set i (some d) }
/-- the addresses that the frame itself writes -/
noncomputable abbrev Cx.own (c : Cx) : List Addr := c.env.locals :: c.vs.filterMap (·.2)

/-- what stands of a frame for good -/
structure Ok (c : Cx) : Prop where
  base : Base c.w c.h₀
  kind : c.env.scope.kind = .function
  glob : c.env.globals = mainGlobals
  blt : c.env.builtins = builtinsNs
  loc : ∀ x, (x, none) ∈ c.vs → c.env.kindOf x = some .local
  cel : ∀ x a, (x, some a) ∈ c.vs → (c.env.kindOf x = some .cell ∨ c.env.kindOf x = some .free) ∧ c.env.cells.lookup x = some a
  nd : (c.vs.map (·.1)).Nodup
  ndc : (c.vs.filterMap (·.2)).Nodup
  own : ∀ a ∈ c.own, a ∈ c.X
  new : ∀ a ∈ c.X, c.h₀.get? a = none

theorem Ok.wd {c : Cx} (k : Ok c) (ds : List (Option D)) : Ok { c with ds := ds } :=
  ⟨k.base, k.kind, k.glob, k.blt, k.loc, k.cel, k.nd, k.ndc, k.own, k.new⟩

/-- what stands of a frame at a state -/
structure St (c : Cx) (s : Shared) : Prop where
  old : Ext c.h₀ s.heap
  low : Low c.X s.heap
  len : c.ds.length = c.vs.length
  ns : ∃ m, s.heap.Ns c.env.locals m ∧ ∀ (i : Nat) x d, c.vs[i]? = some (x, none) → c.ds[i]? = some (some d) → ∃ v, m x = some v ∧ Rep c.X s.heap d v
  cells : ∀ (i : Nat) x a, c.vs[i]? = some (x, some a) → ∃ ov, s.heap.IsCell a ov ∧ ∀ d, c.ds[i]? = some (some d) → ∃ v, ov = some v ∧ Rep c.X s.heap d v

theorem St.pure {c s s'} (k : St c s) (p : Pure s s') : St c s' := by
  refine ⟨k.old.trans p.pure, k.low.ext p.pure, k.len, ?_, ?_⟩
  · obtain ⟨m, hn, hm⟩ := k.ns
    exact ⟨m, hn.keeps p.pure, fun i x d e1 e2 => let ⟨v, a, b⟩ := hm i x d e1 e2; ⟨v, a, b.ext p.pure⟩⟩
  · intro i x a e
    obtain ⟨ov, ⟨o, ho, hd⟩, h⟩ := k.cells i x a e
    exact ⟨ov, ⟨o, p.pure _ _ ho, hd⟩, fun d e => let ⟨v, a, b⟩ := h d e; ⟨v, a, b.ext p.pure⟩⟩

/-- a step that leaves the frame's own objects alone -/
theorem St.step {c s s' Y gs} (k : St c s) (p : Step Y gs s s') (h : ∀ a ∈ Y, a ∈ c.X) (ho : ∀ a ∈ c.own, a ∉ Y) (h0 : ∀ a o, c.h₀.get? a = some o → a ∉ Y) (hl : Low Y s'.heap) : St c s' := by
  have pX := p.ext.mono h
  refine ⟨fun b o e => p.ext b o (h0 b o e) (k.old b o e), k.low.extX p.ext hl, k.len, ?_, ?_⟩
  · obtain ⟨m, hn, hm⟩ := k.ns
    exact ⟨m, hn.at' fun o e => p.ext _ o (ho _ (.head _)) e, fun i x d e1 e2 => let ⟨v, a, b⟩ := hm i x d e1 e2; ⟨v, a, b.extX pX⟩⟩
  · intro i x a e
    obtain ⟨ov, ⟨o, hg, hd⟩, h⟩ := k.cells i x a e
    have ma : a ∈ c.own := .tail _ (List.mem_filterMap.mpr ⟨_, List.mem_of_getElem? e, rfl⟩)
    exact ⟨ov, ⟨o, p.ext _ _ (ho _ ma) hg, hd⟩, fun d e => let ⟨v, a, b⟩ := h d e; ⟨v, a, b.extX pX⟩⟩

/-! judgements -/
noncomputable def Gv (n : Nat) (c : Cx) (t : Sem Value) (d : D) : Prop :=
  Ok c → ∀ (A : Around) (s : Shared) (Q : Value → Shared → Prop) (E : Value → Shared → Prop), Rm n A → St c s →
    (∀ v s', Pure s s' → Rep c.X s'.heap d v → Q v s') → wpAny c.M A t Q E s
noncomputable abbrev Ev (n : Nat) (c : Cx) (e : Expr) (d : D) : Prop := Gv n c (eval e c.env) d
noncomputable def Tv (n : Nat) (c : Cx) (e : Expr) (b : Bool) : Prop :=
  Ok c → ∀ (A : Around) (s : Shared) (Q : Bool → Shared → Prop) (E : Value → Shared → Prop), Rm n A → St c s →
    (∀ s', Pure s s' → Q b s') → wpAny c.M A (isTrue e c.env (eval e c.env)) Q E s
noncomputable def Evs (n : Nat) (c : Cx) (es : List Expr) (ds : List D) : Prop :=
  Ok c → ∀ (A : Around) (s : Shared) (pos : Pos) (Q : List Value → Shared → Prop) (E : Value → Shared → Prop), Rm n A → St c s →
    (∀ vs s', Pure s s' → RepL c.X s'.heap ds vs → Q vs s') → wpAny c.M A (spliced (backTo pos (starEach es c.env))) Q E s

/-- operations upon values -/
noncomputable def Op1 (n : Nat) (w : World) (f : Value → Sem Value) (d₁ d : D) : Prop :=
  ∀ (X : List Addr) (A : Around) (s : Shared) (v₁ : Value) (Q : Value → Shared → Prop) (E : Value → Shared → Prop), Rm n A → Low X s.heap →
    Rep X s.heap d₁ v₁ → (∀ v s', Pure s s' → Rep X s'.heap d v → Q v s') → wpAny (model prog w) A (f v₁) Q E s
noncomputable def Op2 (n : Nat) (w : World) (f : Value → Value → Sem Value) (d₁ d₂ d : D) : Prop :=
  ∀ (X : List Addr) (A : Around) (s : Shared) (v₁ v₂ : Value) (Q : Value → Shared → Prop) (E : Value → Shared → Prop), Rm n A → Low X s.heap →
    Rep X s.heap d₁ v₁ → Rep X s.heap d₂ v₂ → (∀ v s', Pure s s' → Rep X s'.heap d v → Q v s') → wpAny (model prog w) A (f v₁ v₂) Q E s
noncomputable def OpB (n : Nat) (w : World) (f : Value → Sem Bool) (d₁ : D) (b : Bool) : Prop :=
  ∀ (X : List Addr) (A : Around) (s : Shared) (v₁ : Value) (Q : Bool → Shared → Prop) (E : Value → Shared → Prop), Rm n A → Low X s.heap →
    Rep X s.heap d₁ v₁ → (∀ s', Pure s s' → Q b s') → wpAny (model prog w) A (f v₁) Q E s
/-- a call of a callable that leaves all as it was -/
noncomputable def Fn (n : Nat) (w : World) (h₀ : Heap) (f : Value) (args : List D) (d : D) : Prop :=
  ∀ (X : List Addr) (A : Around) (s : Shared) (vs : List Value) (Q : Value → Shared → Prop) (E : Value → Shared → Prop), Rm n A → Ext h₀ s.heap → Low X s.heap → (∀ a ∈ X, h₀.get? a = none) →
    RepL X s.heap args vs → (∀ v s', Pure s s' → Rep X s'.heap d v → Q v s') → wpAny (model prog w) A (call f vs) Q E s

/-! names -/
section
variable {n : Nat} {c : Cx} {x : Str} {pos : Pos} {d : D}
theorem ldVar {i : Nat} {sl} (hi : c.vs[i]? = some (x, sl)) (hd : c.ds[i]? = some (some d)) (hc : (x == ("__classdict__" : Str)) = false := by rfl) : Gv n c (loadName c.env x) d := by
  intro ok A s Q E rm st k
  cases sl with
  | none =>
    obtain ⟨m, hn, hm⟩ := st.ns
    obtain ⟨v, e, r⟩ := hm i x d hi hd
    exact wpAny_loadName_local ok.kind (ok.loc x (List.mem_of_getElem? hi)) hn e (k v s (.refl _ _ _) r)
  | some a =>
    obtain ⟨ov, hcell, h⟩ := st.cells i x a hi
    obtain ⟨v, rfl, r⟩ := h d hd
    obtain ⟨hk | hk, hl⟩ := ok.cel x a (List.mem_of_getElem? hi)
    · exact wpAny_loadName_cell ok.kind hk hl hcell (k v s (.refl _ _ _) r)
    · exact wpAny_loadName_free ok.kind hk hl hcell (k v s (.refl _ _ _) r) hc
theorem Ev.name (i : Nat) {sl} (hi : c.vs[i]? = some (x, sl) := by rfl) (hd : c.ds[i]? = some (some d) := by rfl) (hx : (x == ("__debug__" : Str)) = false := by rfl) (hc : (x == ("__classdict__" : Str)) = false := by rfl) : Ev n c (.Name x pos) d :=
  fun ok A s Q E rm st k => wpAny_Name (ldVar hi hd hc ok A s Q E rm st k) hx
theorem Ev.global {a : Addr} (hk : c.env.kindOf x = some .globalImplicit := by rfl) (e : ∀ w, nsIn (KF w) mainGlobals x = some (some (.ref a)) := by intro _; rfl) (hx : (x == ("__debug__" : Str)) = false := by rfl) : Ev n c (.Name x pos) (.ref a) := by
  intro ok A s Q E rm st k
  obtain ⟨p, loose, mg, mb, T⟩ := ok.base.T
  exact Calls.Name_function_global ok.kind hk (Calls.loadGlobal_global (by rw [ok.glob]; exact T.g.keeps st.old) (mg_of ok.base.K T.g (e _)) (k _ s (.refl _ _ _) Rep.ref')) hx
/-- a built-in's name, by continuation -/
theorem builtinName {v : Value} (ok : Ok c) {A : Around} {s : Shared} {Q : Value → Shared → Prop} {E : Value → Shared → Prop} (st : St c s) (hv : bootBuiltins x = some v) (h : Q v s)
    (hk : c.env.kindOf x = some .globalImplicit := by rfl) (e : ∀ w, nsIn (KF w) mainGlobals x = some none := by intro _; rfl) (hn : x ≠ "__name__" := by decide) (hx : (x == ("__debug__" : Str)) = false := by rfl) : wpAny c.M A (eval (.Name x pos) c.env) Q E s := by
  obtain ⟨p, loose, mg, mb, T⟩ := ok.base.T
  exact Calls.Name_function_global ok.kind hk (Calls.loadGlobal_builtin (by rw [ok.glob]; exact T.g.keeps st.old) (mg_none_of ok.base.K T.g (e _)) (by rw [ok.blt]; exact T.b.keeps st.old) ((T.builtins x hn).trans hv) h) hx
end

/-! constants, operators -/
section
variable {n : Nat} {c : Cx} {k : Nat} {pos : Pos} {d d₁ d₂ : D}
theorem Ev.kInt {i : Int} : Ev n c (.Constant (.int i) k pos) (.int i) := fun _ _ _ _ _ _ _ h => wpAny_Constant_int (h _ _ .toks Rep.int')
theorem Ev.kStr {x : Str} : Ev n c (.Constant (.str x) k pos) (.str x.cps.toList) := fun _ _ _ _ _ _ _ h => wpAny_Constant_str (h _ _ .toks (by rw [Rep]; exact ⟨_, rfl⟩))
theorem Ev.kBool {b : Bool} : Ev n c (.Constant (.bool b) k pos) (.bool b) := fun _ _ s _ _ _ _ h => wpAny_Constant_bool (h _ _ (.refl _ _ s) Rep.bool')
theorem Ev.kNone : Ev n c (.Constant .none k pos) .none := fun _ _ s _ _ _ _ h => wpAny_Constant_none (h _ _ (.refl _ _ s) Rep.none')
theorem Ev.bin {l r : Expr} {op : Operator} (hl : Ev n c l d₁) (hr : Ev n c r d₂) (ho : Op2 n c.w (binaryOp op) d₁ d₂ d) : Ev n c (.BinOp l op r pos) d :=
  fun ok A s Q E rm st h => wpAny_BinOp (hl ok A s _ _ rm st fun v₁ s₁ p₁ r₁ => hr ok A s₁ _ _ rm (st.pure p₁) fun v₂ s₂ p₂ r₂ =>
    ho c.X A s₂ v₁ v₂ _ _ rm ((st.pure p₁).pure p₂).low (r₁.ext p₂.pure) r₂ fun v s₃ p₃ r₃ => h v s₃ ((p₁.trans p₂).trans p₃) r₃)
theorem Ev.cmp {l r : Expr} {op : CmpOp} (hl : Ev n c l d₁) (hr : Ev n c r d₂) (ho : Op2 n c.w (compareOp op) d₁ d₂ d) (hm : behindInMarks op r = false := by with_unfolding_all rfl) : Ev n c (.Compare l [op] [r] pos) d :=
  fun ok A s Q E rm st h => wpAny_Compare1 (hl ok A s _ _ rm st fun v₁ s₁ p₁ r₁ => hr ok A s₁ _ _ rm (st.pure p₁) fun v₂ s₂ p₂ r₂ =>
    ho c.X A s₂ v₁ v₂ _ _ rm ((st.pure p₁).pure p₂).low (r₁.ext p₂.pure) r₂ fun v s₃ p₃ r₃ => h v s₃ ((p₁.trans p₂).trans p₃) r₃) hm
theorem Tv.cmp {l r : Expr} {op : CmpOp} {b : Bool} (hl : Ev n c l d₁) (hr : Ev n c r d₂) (ho : Op2 n c.w (compareOp op) d₁ d₂ (.bool b)) (hm : behindInMarks op r = false := by with_unfolding_all rfl) : Tv n c (.Compare l [op] [r] pos) b :=
  fun ok A s Q E rm st h => wpAny_isTrue_Compare1 (hl ok A s _ _ rm st fun v₁ s₁ p₁ r₁ => hr ok A s₁ _ _ rm (st.pure p₁) fun v₂ s₂ p₂ r₂ =>
    ho c.X A s₂ v₁ v₂ _ _ rm ((st.pure p₁).pure p₂).low (r₁.ext p₂.pure) r₂ fun v s₃ p₃ r₃ => by
      rw [r₃.bool_inv]; exact wpAny_truthy_bool (h s₃ ((p₁.trans p₂).trans p₃))) hm
theorem Tv.val {e : Expr} {b : Bool} (he : Ev n c e d) (ho : OpB n c.w truthy d b) (hs : isTrue e c.env (eval e c.env) = (do let v ← eval e c.env; standAt e.pos; holding [v] (truthy v)) := by rfl) : Tv n c e b :=
  fun ok A s Q E rm st h => wpAny_isTrue_value (he ok A s _ _ rm st fun v₁ s₁ p₁ r₁ => ho c.X A s₁ v₁ _ _ rm (st.pure p₁).low r₁ fun s₂ p₂ => h s₂ (p₁.trans p₂)) hs
theorem Evs.nil : Evs n c [] [] := fun _ _ s _ _ _ _ _ h => Calls.spliced_nil (h _ _ (.refl _ _ s) .nil)
theorem Evs.cons {e : Expr} {es : List Expr} {ds : List D} (he : Ev n c e d) (hes : Evs n c es ds) (hs : starEach (e :: es) c.env = (false, eval e c.env) :: starEach es c.env := by rfl) : Evs n c (e :: es) (d :: ds) := by
  intro ok A s pos Q E rm st h
  rw [hs]
  refine Calls.spliced_cons ?_
  exact he ok A s _ _ rm st fun v s₁ p₁ r₁ => hes ok A s₁ pos _ _ rm (st.pure p₁) fun vs s₂ p₂ r₂ => h _ _ (p₁.trans p₂) (.cons (r₁.ext p₂.pure) r₂)
end
end Mine
end
section
open PySem PySem.W PyProof.Rows
set_option Elab.async false
set_option linter.unusedVariables false
namespace Mine

mutual
noncomputable def D.toP : D → PyData
  | .none => .none
  | .bool b => .bool b
  | .int i => .int i
  | .str l => .str ⟨l.toArray⟩
  | .tup l => .tuple (D.toPs l)
  | .lst l => .list (D.toPs l)
  | .ref _ => .none
  | .obj _ _ _ => .none
  | .map _ => .none
noncomputable def D.toPs : List D → List PyData
  | [] => []
  | d :: ds => d.toP :: D.toPs ds
end
mutual
/-- made of ints, texts, bools, None, lists and tuples alone -/
noncomputable def D.plain : D → Bool
  | .none => true
  | .bool _ => true
  | .int _ => true
  | .str l => l.all (· < 0x110000)
  | .tup l => D.plains l
  | .lst l => D.plains l
  | .ref _ => false
  | .obj _ _ _ => false
  | .map _ => false
noncomputable def D.plains : List D → Bool
  | [] => true
  | d :: ds => d.plain && D.plains ds
end

mutual
theorem Rep.reads {X : List Addr} {h : Heap} : ∀ {d : D} {v : Value}, Rep X h d v → d.plain = true → ∃ as, Reads h v d.toP as
  | .none, v, x, _ => by rw [x.none_inv]; exact ⟨_, by rw [D.toP]; exact .none⟩
  | .bool b, v, x, _ => by rw [x.bool_inv]; exact ⟨_, by rw [D.toP]; exact .bool _⟩
  | .int i, v, x, _ => by obtain ⟨t, rfl⟩ := x.int_inv; exact ⟨_, by rw [D.toP]; exact .int _ _⟩
  | .str l, v, x, _ => by obtain ⟨t, rfl⟩ := x.str_inv; exact ⟨_, by rw [D.toP]; exact .str _ _⟩
  | .ref a, v, x, p => by simp [D.plain] at p
  | .obj a _ _, v, x, p => by simp [D.plain] at p
  | .map _, v, x, p => by simp [D.plain] at p
  | .tup ds, v, x, p => by
    rw [D.plain] at p
    obtain ⟨a, vs, rfl, n, ⟨o, g, hc, m, hd⟩, y⟩ := x.tup_inv
    obtain ⟨as, r⟩ := RepL.reads y p
    exact ⟨_, by rw [D.toP]; exact .tuple g hc hd (by simpa using r)⟩
  | .lst ds, v, x, p => by
    rw [D.plain] at p
    obtain ⟨a, vs, rfl, n, ⟨o, g, hc, m, hd⟩, y⟩ := x.lst_inv
    obtain ⟨as, r⟩ := RepL.reads y p
    exact ⟨_, by rw [D.toP]; exact .list g hc hd (by simpa using r)⟩
theorem RepL.reads {X : List Addr} {h : Heap} : ∀ {ds : List D} {vs : List Value}, RepL X h ds vs → D.plains ds = true → ∃ as, ReadsAll h vs (D.toPs ds) as
  | [], vs, x, _ => by rw [RepL.nil_iff] at x; subst x; exact ⟨_, by rw [D.toPs]; exact .nil⟩
  | d :: ds, vs, x, p => by
    rw [RepL.cons_iff] at x
    obtain ⟨v, r, rfl, a, b⟩ := x
    rw [D.plains, Bool.and_eq_true] at p
    obtain ⟨as, ra⟩ := Rep.reads a p.1
    obtain ⟨bs, rb⟩ := RepL.reads b p.2
    exact ⟨_, by rw [D.toPs]; exact .cons ra rb⟩
end
mutual
theorem D.canLay : ∀ {d : D}, d.plain = true → d.toP.canLay0 = true
  | .none, _ => by rw [D.toP]; rfl
  | .bool b, _ => by rw [D.toP]; rfl
  | .int i, _ => by rw [D.toP]; rfl
  | .str l, p => by
    rw [D.toP]
    show PyData.strOk ⟨l.toArray⟩ = true
    unfold PyData.strOk
    rw [D.plain] at p
    simpa using p
  | .ref a, p => by simp [D.plain] at p
  | .obj a _ _, p => by simp [D.plain] at p
  | .tup ds, p => by rw [D.plain] at p; rw [D.toP]; show PyData.canLayAll0 _ = true; exact D.canLays p
  | .lst ds, p => by rw [D.plain] at p; rw [D.toP]; show PyData.canLayAll0 _ = true; exact D.canLays p
theorem D.canLays : ∀ {ds : List D}, D.plains ds = true → PyData.canLayAll0 (D.toPs ds) = true
  | [], _ => by rw [D.toPs]; rfl
  | d :: ds, p => by
    rw [D.plains, Bool.and_eq_true] at p
    rw [D.toPs]
    show (d.toP.canLay0 && PyData.canLayAll0 (D.toPs ds)) = true
    rw [D.canLay p.1, D.canLays p.2]; rfl
end
noncomputable abbrev D.eqv (a b : D) : Bool := PyData.eqv a.toP b.toP

section
variable {n : Nat} {w : World} {i j : Int} {l m : List Nat} {d₁ d₂ : D}

theorem op_add : Op2 n w (binaryOp .Add) (.int i) (.int j) (.int (i + j)) := fun X A s v₁ v₂ Q E rm lo r₁ r₂ k => by
  obtain ⟨t, rfl⟩ := r₁.int_inv; obtain ⟨u, rfl⟩ := r₂.int_inv; exact P.add_int (k _ _ .toks Rep.int')
theorem op_iadd : Op2 n w (inplaceOp .Add) (.int i) (.int j) (.int (i + j)) := fun X A s v₁ v₂ Q E rm lo r₁ r₂ k => by
  obtain ⟨t, rfl⟩ := r₁.int_inv; obtain ⟨u, rfl⟩ := r₂.int_inv; exact P.iadd_int (k _ _ .toks Rep.int')
theorem op_isub : Op2 n w (inplaceOp .Sub) (.int i) (.int j) (.int (i - j)) := fun X A s v₁ v₂ Q E rm lo r₁ r₂ k => by
  obtain ⟨t, rfl⟩ := r₁.int_inv; obtain ⟨u, rfl⟩ := r₂.int_inv; exact P.isub_int (k _ _ .toks Rep.int')
theorem op_sub : Op2 n w (binaryOp .Sub) (.int i) (.int j) (.int (i - j)) := fun X A s v₁ v₂ Q E rm lo r₁ r₂ k => by
  obtain ⟨t, rfl⟩ := r₁.int_inv; obtain ⟨u, rfl⟩ := r₂.int_inv; exact P.sub_int (k _ _ .toks Rep.int')
theorem op_mul (h1 : -(2 ^ 64) < i) (h2 : i < 2 ^ 64) : Op2 n w (binaryOp .Mult) (.int i) (.int j) (.int (i * j)) := fun X A s v₁ v₂ Q E rm lo r₁ r₂ k => by
  obtain ⟨t, rfl⟩ := r₁.int_inv; obtain ⟨u, rfl⟩ := r₂.int_inv; exact P.mul_int (k _ _ .toks Rep.int') (.of_left (intBits_le_64 h1 h2))
theorem op_mod (h : 0 < j) : Op2 n w (binaryOp .Mod) (.int i) (.int j) (.int (i % j)) := fun X A s v₁ v₂ Q E rm lo r₁ r₂ k => by
  obtain ⟨t, rfl⟩ := r₁.int_inv; obtain ⟨u, rfl⟩ := r₂.int_inv
  exact mod_int' (by omega) (by rw [Int.fmod_eq_emod_of_nonneg _ (Int.le_of_lt h)]; exact k _ _ .toks Rep.int')
theorem op_div (h : 0 < j) (h' : j < 1073741824) : Op2 n w (binaryOp .FloorDiv) (.int i) (.int j) (.int (i / j)) := fun X A s v₁ v₂ Q E rm lo r₁ r₂ k => by
  obtain ⟨t, rfl⟩ := r₁.int_inv; obtain ⟨u, rfl⟩ := r₂.int_inv
  exact floordiv_int (by lia) (by rw [Int.fdiv_eq_ediv_of_nonneg _ (Int.le_of_lt h)]; exact k _ _ .toks Rep.int') (.inl (PyProof.noPylong_small (by lia)))
theorem op_pow {k : Nat} (h1 : 0 ≤ j) (h2 : (Builtin.Int.intBits i : Int) * j ≤ 2 ^ 27) : Op2 n w (binaryOp .Pow) (.int i) (.int j) (.int (i ^ j.toNat)) := fun X A s v₁ v₂ Q E rm lo r₁ r₂ k => by
  obtain ⟨t, rfl⟩ := r₁.int_inv; obtain ⟨u, rfl⟩ := r₂.int_inv; exact pow_int h1 h2 (k _ _ .toks Rep.int')
theorem op_neg : Op1 n w (unaryOp .USub) (.int i) (.int (-i)) := fun X A s v₁ Q E rm lo r₁ k => by
  obtain ⟨t, rfl⟩ := r₁.int_inv; exact P.neg_int (k _ _ .toks Rep.int')
theorem op_lt : Op2 n w (compareOp .Lt) (.int i) (.int j) (.bool (decide (i < j))) := fun X A s v₁ v₂ Q E rm lo r₁ r₂ k => by
  obtain ⟨t, rfl⟩ := r₁.int_inv; obtain ⟨u, rfl⟩ := r₂.int_inv; exact P.lt_int (k _ _ (.refl _ _ _) Rep.bool')
theorem op_le : Op2 n w (compareOp .LtE) (.int i) (.int j) (.bool (decide (i ≤ j))) := fun X A s v₁ v₂ Q E rm lo r₁ r₂ k => by
  obtain ⟨t, rfl⟩ := r₁.int_inv; obtain ⟨u, rfl⟩ := r₂.int_inv; exact P.le_int (k _ _ (.refl _ _ _) Rep.bool')
theorem op_gt : Op2 n w (compareOp .Gt) (.int i) (.int j) (.bool (decide (i > j))) := fun X A s v₁ v₂ Q E rm lo r₁ r₂ k => by
  obtain ⟨t, rfl⟩ := r₁.int_inv; obtain ⟨u, rfl⟩ := r₂.int_inv; exact P.gt_int (k _ _ (.refl _ _ _) Rep.bool')
theorem op_eqi : Op2 n w (compareOp .Eq) (.int i) (.int j) (.bool (i == j)) := fun X A s v₁ v₂ Q E rm lo r₁ r₂ k => by
  obtain ⟨t, rfl⟩ := r₁.int_inv; obtain ⟨u, rfl⟩ := r₂.int_inv; exact P.eq_int (k _ _ (.refl _ _ _) Rep.bool')
theorem op_nei : Op2 n w (compareOp .NotEq) (.int i) (.int j) (.bool (i != j)) := fun X A s v₁ v₂ Q E rm lo r₁ r₂ k => by
  obtain ⟨t, rfl⟩ := r₁.int_inv; obtain ⟨u, rfl⟩ := r₂.int_inv; exact P.ne_int (k _ _ (.refl _ _ _) Rep.bool')
theorem op_eqs : Op2 n w (compareOp .Eq) (.str l) (.str m) (.bool (l == m)) := fun X A s v₁ v₂ Q E rm lo r₁ r₂ k => by
  obtain ⟨t, rfl⟩ := r₁.str_inv; obtain ⟨u, rfl⟩ := r₂.str_inv; exact P.eq_str (k _ _ (.refl _ _ _) (by simpa using Rep.bool'))
theorem op_nes : Op2 n w (compareOp .NotEq) (.str l) (.str m) (.bool (l != m)) := fun X A s v₁ v₂ Q E rm lo r₁ r₂ k => by
  obtain ⟨t, rfl⟩ := r₁.str_inv; obtain ⟨u, rfl⟩ := r₂.str_inv; exact P.ne_str (k _ _ (.refl _ _ _) (by simpa using Rep.bool'))
theorem op_adds (h : l.length + m.length ≤ sizeLine) : Op2 n w (binaryOp .Add) (.str l) (.str m) (.str (l ++ m)) := fun X A s v₁ v₂ Q E rm lo r₁ r₂ k => by
  obtain ⟨t, rfl⟩ := r₁.str_inv; obtain ⟨u, rfl⟩ := r₂.str_inv
  refine add_str (fun t' tk => k _ _ .toks ?_) (by simpa [Str.length] using h)
  rw [Rep]; exact ⟨t', by show Value.str (Str.append _ _) _ = _; simp [Str.append]⟩
theorem op_iadds (h : l.length + m.length ≤ sizeLine) : Op2 n w (inplaceOp .Add) (.str l) (.str m) (.str (l ++ m)) := fun X A s v₁ v₂ Q E rm lo r₁ r₂ k => by
  obtain ⟨t, rfl⟩ := r₁.str_inv; obtain ⟨u, rfl⟩ := r₂.str_inv
  refine iadd_str (fun t' tk => k _ _ .toks ?_) (by simpa [Str.length] using h)
  rw [Rep]; exact ⟨t', by show Value.str (Str.append _ _) _ = _; simp [Str.append]⟩
/-- a new object whose address is none of X -/
theorem fresh_not {X : List Addr} {h : Heap} (lo : Low X h) : h.objs.size ∉ X := lo.fresh
theorem op_addl {ds es : List D} (h : ds.length + es.length ≤ sizeLine) : Op2 n w (binaryOp .Add) (.lst ds) (.lst es) (.lst (ds ++ es)) := fun X A s v₁ v₂ Q E rm lo r₁ r₂ k => by
  obtain ⟨a, vs, rfl, na, ia, ra⟩ := r₁.lst_inv
  obtain ⟨b, ws, rfl, nb, ib, rb⟩ := r₂.lst_inv
  obtain ⟨⟨cls, dd, data, sl⟩, ho, hc, m', hd⟩ := id ia
  obtain ⟨⟨cls2, dd2, data2, sl2⟩, ho2, hc2, m2, hd2⟩ := id ib
  simp only at hc hd hc2 hd2
  subst hc hd hc2 hd2
  refine concat_meets ⟨_, ho, rfl⟩ ⟨_, ho2, rfl⟩ noFill_list_add seq_list_add F.slot_list_add F.entry_list_add (F.args_list_add_2 _ _) (list_addW a b vs.toArray ws.toArray m' m2 dd dd2 sl sl2 (by simpa [ra.length, rb.length] using h)) ⟨ho, ho2, ?_⟩
  refine k _ _ .push ?_
  refine Rep.lst' (vs := vs ++ ws) (fresh_not lo) ⟨0, by rw [← List.append_toArray]; exact Heap.get?_push_size _ rfl⟩ ?_
  have e : Ext s.heap (s.heap.push { cls := .type "list", data := .seq (vs.toArray ++ ws.toArray) }) := fun _ _ e => Heap.get?_push_of_some _ e
  exact (ra.ext e).append (rb.ext e)
theorem op_eq (h1 : d₁.plain = true) (h2 : d₂.plain = true) (hd : min d₁.toP.depth d₂.toP.depth ≤ 60 * n) : Op2 n w (compareOp .Eq) d₁ d₂ (.bool (d₁.eqv d₂)) := fun X A s v₁ v₂ Q E rm lo r₁ r₂ k => by
  obtain ⟨as, ra⟩ := r₁.reads h1; obtain ⟨bs, rb⟩ := r₂.reads h2
  exact SeqAt.compareEq_reads ra rb (D.canLay h1) (D.canLay h2) (by have := rm.units; lia) (k _ _ (.refl _ _ _) Rep.bool')
theorem op_ne (h1 : d₁.plain = true) (h2 : d₂.plain = true) (hd : min d₁.toP.depth d₂.toP.depth ≤ 60 * n) : Op2 n w (compareOp .NotEq) d₁ d₂ (.bool (!d₁.eqv d₂)) := fun X A s v₁ v₂ Q E rm lo r₁ r₂ k => by
  obtain ⟨as, ra⟩ := r₁.reads h1; obtain ⟨bs, rb⟩ := r₂.reads h2
  exact SeqAt.compareNe_reads ra rb (D.canLay h1) (D.canLay h2) (by have := rm.units; lia) (k _ _ (.refl _ _ _) Rep.bool')
theorem op_isNot_bool {a b : Bool} : Op2 n w (compareOp .IsNot) (.bool a) (.bool b) (.bool (a != b)) := fun X A s v₁ v₂ Q E rm lo r₁ r₂ k => by
  rw [r₁.bool_inv, r₂.bool_inv]
  refine wpAny_isNot_plain rfl (k _ _ (.refl _ _ _) ?_)
  cases a <;> cases b <;> exact Rep.bool'
theorem op_isNone_int : Op2 n w (compareOp .Is) (.int i) .none (.bool false) := fun X A s v₁ v₂ Q E rm lo r₁ r₂ k => by
  obtain ⟨t, rfl⟩ := r₁.int_inv; rw [r₂.none_inv]
  exact wpAny_is_other rfl (by simp) (k _ _ (.refl _ _ _) Rep.bool')
theorem op_isNone_none : Op2 n w (compareOp .Is) .none .none (.bool true) := fun X A s v₁ v₂ Q E rm lo r₁ r₂ k => by
  rw [r₁.none_inv, r₂.none_inv]
  exact wpAny_is_self rfl (k _ _ (.refl _ _ _) Rep.bool')
theorem tr_bool {b : Bool} : OpB n w truthy (.bool b) b := fun X A s v₁ Q E rm lo r₁ k => by
  rw [r₁.bool_inv]; exact wpAny_truthy_bool (k _ (.refl _ _ _))
theorem tr_lst {ds : List D} (h : ds.length < 2 ^ 62) : OpB n w truthy (.lst ds) (!ds.isEmpty) := fun X A s v₁ Q E rm lo r₁ k => by
  obtain ⟨a, vs, rfl, na, ia, ra⟩ := r₁.lst_inv
  have e : (!vs.toArray.isEmpty) = !ds.isEmpty := by
    have := ra.length
    cases ds <;> cases vs <;> simp_all
  refine wpAny_truthy_list ia (by simp [ra.length]; lia) ?_
  rw [e]
  exact k _ .toks
end
end Mine
end
section
open PySem PySem.W PyProof.Rows
set_option Elab.async false
set_option linter.unusedVariables false
namespace Mine

/-! slices as plain lists -/
noncomputable def clp (v : Option Int) (dflt n : Nat) : Nat := match v with
  | none => dflt
  | some i => (max 0 (min (if i < 0 then i + n else i) n)).toNat
noncomputable def sl {α : Type} (lo hi : Option Int) (l : List α) : List α := (l.take (clp hi l.length l.length)).drop (clp lo 0 l.length)

theorem pick_run {α : Type} (l : List α) : ∀ (k a : Nat), ((List.range k).map (a + ·)).filterMap (l[·]?) = (l.drop a).take k
  | 0, a => by simp
  | k + 1, a => by
    rw [List.range_succ, List.map_append, List.filterMap_append, pick_run l k a, List.take_add_one]
    congr 1
    simp only [List.map_cons, List.map_nil, List.filterMap_cons, List.filterMap_nil, List.getElem?_drop]
    cases l[a + k]? <;> rfl
theorem clp_le (v : Option Int) (d n : Nat) (h : d ≤ n) : clp v d n ≤ n := by
  cases v with
  | none => exact h
  | some i => show (max 0 (min (if i < 0 then i + n else i) (n : Int))).toNat ≤ n; omega
theorem clp_int (v : Option Int) (d n : Nat) (h : d ≤ n) :
    (match v with | none => (d : Int) | some i => max 0 (min (if i < 0 then i + n else i) (n : Int))) = (clp v d n : Int) := by
  cases v with
  | none => rfl
  | some i => show max 0 (min (if i < 0 then i + n else i) (n : Int)) = (((max 0 (min (if i < 0 then i + n else i) (n : Int))).toNat : Nat) : Int); lia
theorem pick_sl {α : Type} (lo hi : Option Int) (l : List α) (i j : Int) (hi' : i = (clp lo 0 l.length : Int)) (hj : j = (clp hi l.length l.length : Int)) :
    (sliceRange i j 1).filterMap (l[·]?) = sl lo hi l := by
  subst hi' hj
  rw [sliceRange_one, pick_run]
  unfold sl
  rw [List.drop_take]
theorem slicePick_sl (vs : List Value) (lo hi : Option Int) : slicePick vs.toArray lo hi none = (sl lo hi vs).toArray := by
  unfold slicePick
  congr 1
  rw [← pick_sl lo hi vs _ _ rfl rfl]
  have e1 : (sliceBounds lo hi none vs.toArray.size).1 = (clp lo 0 vs.length : Int) := by
    rw [← clp_int lo 0 vs.length (Nat.zero_le _)]
    unfold sliceBounds
    cases lo <;> simp
  have e2 : (sliceBounds lo hi none vs.toArray.size).2.1 = (clp hi vs.length vs.length : Int) := by
    rw [← clp_int hi vs.length vs.length (Nat.le_refl _)]
    unfold sliceBounds
    cases hi <;> simp
  have e3 : (sliceBounds lo hi none vs.toArray.size).2.2 = 1 := rfl
  rw [e1, e2, e3]
  simp
theorem strPick_sl (cs : List Nat) (lo hi : Option Int) : (Builtin.Str.strSliceIndices lo hi 1 cs.length).filterMap (cs[·]?) = sl lo hi cs := by
  refine pick_sl lo hi cs _ _ ?_ ?_
  · rw [← clp_int lo 0 cs.length (Nat.zero_le _)]
    cases lo <;> simp
  · rw [← clp_int hi cs.length cs.length (Nat.le_refl _)]
    cases hi <;> simp
theorem strPick_len (cs : List Nat) (lo hi : Option Int) : (Builtin.Str.strSliceIndices lo hi 1 cs.length).length = (sl lo hi cs).length := by
  have e1 := clp_int lo 0 cs.length (Nat.zero_le _)
  have e2 := clp_int hi cs.length cs.length (Nat.le_refl _)
  have h2 := clp_le hi cs.length cs.length (Nat.le_refl _)
  have : Builtin.Str.strSliceIndices lo hi 1 cs.length = sliceRange (clp lo 0 cs.length) (clp hi cs.length cs.length) 1 := by
    rw [← e1, ← e2]
    cases lo <;> cases hi <;> simp [Builtin.Str.strSliceIndices]
  rw [this, sliceRange_one]
  unfold sl
  simp
  lia
theorem sl_full {α : Type} {lo hi : Option Int} {l : List α} (h : (sl lo hi l).length = l.length) : sl lo hi l = l := by
  unfold sl at h ⊢
  rw [List.length_drop, List.length_take] at h
  by_cases h0 : l.length = 0
  · have : l = [] := List.length_eq_zero_iff.mp h0
    subst this; simp
  · have ha : clp lo 0 l.length = 0 := by lia
    rw [ha, List.drop_zero]
    exact List.take_of_length_le (by lia)
theorem RepL.sl {X h} {ds : List D} {vs : List Value} (x : RepL X h ds vs) (lo hi : Option Int) : RepL X h (sl lo hi ds) (sl lo hi vs) := by
  unfold Mine.sl
  rw [x.length]
  exact x.take.drop
theorem sl_length {α : Type} (lo hi : Option Int) (l : List α) : (sl lo hi l).length ≤ l.length := by
  unfold sl; rw [List.length_drop, List.length_take]; omega

/-- an index of Python upon a list of that many items -/
noncomputable def pyIdx (i : Int) (n : Nat) : Nat := (if i < 0 then i + n else i).toNat

section
variable {n : Nat} {w : World} {i : Int} {l : List Nat} {ds : List D} {d : D}

theorem item_lst (h1 : -(ds.length : Int) ≤ i) (h2 : i < ds.length) (hz : ds.length ≤ 2 ^ 30) (hd : ds[pyIdx i ds.length]? = some d) : Op2 n w getItem (.lst ds) (.int i) d := fun X A s v₁ v₂ Q E rm lo r₁ r₂ k => by
  obtain ⟨a, vs, rfl, na, ia, ra⟩ := r₁.lst_inv
  obtain ⟨t, rfl⟩ := r₂.int_inv
  obtain ⟨v, e, r⟩ := ra.get hd
  have hl := ra.length
  by_cases h0 : i < 0
  · refine wpAny_getItem_list_neg ia h0 (by simp; lia) (by lia) (x := v) ?_ (k v s (.refl _ _ _) r)
    unfold pyIdx at e
    rw [if_pos h0] at e
    simpa [hl] using e
  · refine wpAny_getItem_list ia (by lia) (by lia) (x := v) ?_ (k v s (.refl _ _ _) r)
    unfold pyIdx at e
    rw [if_neg h0] at e
    simpa using e
theorem item_tup (h1 : 0 ≤ i) (hz : ds.length ≤ 2 ^ 30) (hd : ds[i.toNat]? = some d) : Op2 n w getItem (.tup ds) (.int i) d := fun X A s v₁ v₂ Q E rm lo r₁ r₂ k => by
  obtain ⟨a, vs, rfl, na, ia, ra⟩ := r₁.tup_inv
  obtain ⟨t, rfl⟩ := r₂.int_inv
  obtain ⟨v, e, r⟩ := ra.get hd
  have hlt : i.toNat < ds.length := (List.getElem?_eq_some_iff.mp hd).1
  refine getItem_tuple ia (by lia) (by lia) (j := i.toNat) ?_ (x := v) (by simpa using e) (k v s (.refl _ _ _) r)
  exact seqIndex_of h1 (by simp [ra.length]; lia)
theorem item_str {c : Nat} (h1 : 0 ≤ i) (hz : l.length ≤ 2 ^ 30) (hd : l[i.toNat]? = some c) : Op2 n w getItem (.str l) (.int i) (.str [c]) := fun X A s v₁ v₂ Q E rm lo r₁ r₂ k => by
  obtain ⟨t, rfl⟩ := r₁.str_inv
  obtain ⟨u, rfl⟩ := r₂.int_inv
  have hlt : i.toNat < l.length := (List.getElem?_eq_some_iff.mp hd).1
  refine P.getItem_str (c := c) (by simp; lia) ?_ (k _ _ .toks (by rw [Rep]; exact ⟨_, rfl⟩))
  have : seqIndex? i (Str.length ⟨l.toArray⟩) = some i.toNat := seqIndex_of h1 (by simp [Str.length]; lia)
  rw [this]
  simpa using hd
end

section
variable {n : Nat} {c : Cx} {pos : Pos} {d d₁ d₂ : D} {value slice : Expr}
/-- what a slice's part is: left out, or an int -/
inductive Pt (n : Nat) (c : Cx) : Option Expr → Option Int → Prop
  | no : Pt n c none none
  | yes {e : Expr} {i : Int} (h : Ev n c e (.int i)) : Pt n c (some e) (some i)
theorem Pt.run {e : Option Expr} {i : Option Int} (p : Pt n c e i) (ok : Ok c) {A : Around} {s : Shared} {Q : Value → Shared → Prop} {E : Value → Shared → Prop} (rm : Rm n A) (st : St c s)
    (k : ∀ v s' (o : Option (Int × Tok)), Pure s s' → v = partValue o → o.map (·.1) = i → Q v s') : wpAny c.M A (evalPart e c.env) Q E s := by
  cases p with
  | no => exact wpAny_evalPart_none (k _ s none (.refl _ _ _) rfl rfl)
  | yes h =>
    refine wpAny_evalPart_some (h ok A s _ _ rm st fun v s' p r => ?_)
    obtain ⟨t, rfl⟩ := r.int_inv
    exact k _ _ (some (_, t)) p rfl rfl
theorem Ev.sub {T id : String} (hv : Ev n c value d₁) (hs : Ev n c slice d₂) (hT : ∀ X (s : Shared) v, Rep X s.heap d₁ v → s.TypeIs v T) (hl : typeLookup (.type T) "__getitem__" = pure (some (.builtin id)))
    (ho : Op2 n c.w getItem d₁ d₂ d) (hq : ∀ v i, subscripted slice false v i = operate [v, i] (getItem v i) := by intro _ _; with_unfolding_all rfl) : Ev n c (.Subscript value slice pos) d :=
  fun ok A s Q E rm st k => Subscript_ (hv ok A s _ _ rm st fun v₁ s₁ p₁ r₁ => hs ok A s₁ _ _ rm (st.pure p₁) fun v₂ s₂ p₂ r₂ =>
    tail_any (hT c.X s₂ v₁ (r₁.ext p₂.pure)) hl (ho c.X A s₂ v₁ v₂ _ _ rm ((st.pure p₁).pure p₂).low (r₁.ext p₂.pure) r₂ fun v s₃ p₃ r₃ => k v s₃ ((p₁.trans p₂).trans p₃) r₃) (hq v₁ v₂))
theorem isT_lst {ds : List D} : ∀ X (s : Shared) v, Rep X s.heap (.lst ds) v → s.TypeIs v "list" := fun X s v r => by
  obtain ⟨a, vs, rfl, na, ia, ra⟩ := r.lst_inv; exact ia.typeIs
theorem isT_tup {ds : List D} : ∀ X (s : Shared) v, Rep X s.heap (.tup ds) v → s.TypeIs v "tuple" := fun X s v r => by
  obtain ⟨a, vs, rfl, na, ia, ra⟩ := r.tup_inv; exact ia.typeIs
theorem isT_str {l : List Nat} : ∀ X (s : Shared) v, Rep X s.heap (.str l) v → s.TypeIs v "str" := fun X s v r => by
  obtain ⟨t, rfl⟩ := r.str_inv; exact typeIs_str s _ t
theorem Ev.at {ds : List D} {i : Int} (hv : Ev n c value (.lst ds)) (hs : Ev n c slice (.int i)) (h1 : -(ds.length : Int) ≤ i) (h2 : i < ds.length) (hz : ds.length ≤ 2 ^ 30) (hd : ds[pyIdx i ds.length]? = some d)
    (hq : ∀ v i, subscripted slice false v i = operate [v, i] (getItem v i) := by intro _ _; with_unfolding_all rfl) : Ev n c (.Subscript value slice pos) d :=
  .sub hv hs isT_lst slot_list_getitem.lookup (item_lst h1 h2 hz hd) hq
theorem Ev.atT {ds : List D} {i : Int} (hv : Ev n c value (.tup ds)) (hs : Ev n c slice (.int i)) (h1 : 0 ≤ i) (hz : ds.length ≤ 2 ^ 30) (hd : ds[i.toNat]? = some d)
    (hq : ∀ v i, subscripted slice false v i = operate [v, i] (getItem v i) := by intro _ _; with_unfolding_all rfl) : Ev n c (.Subscript value slice pos) d :=
  .sub hv hs isT_tup slot_tuple_getitem.lookup (item_tup h1 hz hd) hq
theorem Ev.atS {l : List Nat} {i : Int} {x : Nat} (hv : Ev n c value (.str l)) (hs : Ev n c slice (.int i)) (h1 : 0 ≤ i) (hz : l.length ≤ 2 ^ 30) (hd : l[i.toNat]? = some x)
    (hq : ∀ v i, subscripted slice false v i = operate [v, i] (getItem v i) := by intro _ _; with_unfolding_all rfl) : Ev n c (.Subscript value slice pos) (.str [x]) :=
  .sub hv hs isT_str F.slot_str_getitem.lookup (item_str h1 hz hd) hq
theorem Ev.slc {lower upper : Option Expr} {lo hi : Option Int} {p : Pos} {ds : List D} (hv : Ev n c value (.lst ds)) (hlo : Pt n c lower lo) (hhi : Pt n c upper hi) (hz : ds.length ≤ sizeLine) :
    Ev n c (.Subscript value (.Slice lower upper none p) pos) (.lst (sl lo hi ds)) := by
  intro ok A s Q E rm st k
  refine Subscript_ (hv ok A s _ _ rm st fun v₁ s₁ p₁ r₁ => ?_)
  have st₁ := st.pure p₁
  refine wpAny_Slice (hlo.run ok rm st₁ fun v₂ s₂ o₂ p₂ e₂ q₂ => hhi.run ok rm (st₁.pure p₂) fun v₃ s₃ o₃ p₃ e₃ q₃ => wpAny_evalPart_none ?_)
  have p := (p₁.trans p₂).trans p₃
  obtain ⟨a, vs, rfl, na, ia, ra⟩ := (r₁.ext (p₂.trans p₃).pure).lst_inv
  have st₃ := st.pure p
  have pp : Pure s₃ { s₃ with heap := s₃.heap.push { cls := .type "slice", data := .fields #[v₂, v₃, .none] } } := .push
  have ia' : Heap.IsList (s₃.heap.push { cls := .type "slice", data := .fields #[v₂, v₃, .none] }) a vs.toArray := let ⟨o, e, r⟩ := ia; ⟨o, pp.pure _ _ e, r⟩
  have q2 : IsPart v₂ lo := by rw [e₂, ← q₂]; cases o₂ <;> first | exact .none | exact .int _ _ | constructor
  have q3 : IsPart v₃ hi := by rw [e₃, ← q₃]; cases o₃ <;> first | exact .none | exact .int _ _ | constructor
  refine tail_any (T := "list") ia'.typeIs slot_list_getitem.lookup ?_ (ops := [.ref s₃.heap.objs.size, .ref a]) rfl
  refine wpAny_getItem_list_slice ia' (vl := v₂) (vu := v₃) (vs := .none) ⟨_, Heap.get?_push_size _ rfl, rfl, rfl⟩ q2 q3 (st := none) (by constructor) (by simp) ?_ (by simp [ra.length]; exact hz)
  refine k _ _ (p.trans (pp.trans .push)) ?_
  have st₄ := st₃.pure pp
  refine Rep.lst' (vs := sl lo hi vs) (fresh_not st₄.low) ⟨0, ?_⟩ ?_
  · rw [← slicePick_sl]; exact Heap.get?_push_size _ rfl
  · have e2 : Pure { s₃ with heap := s₃.heap.push { cls := .type "slice", data := .fields #[v₂, v₃, .none] } } { s₃ with heap := (s₃.heap.push { cls := .type "slice", data := .fields #[v₂, v₃, .none] }).push { cls := .type "list", data := .seq (slicePick vs.toArray lo hi none) } } := .push
    exact ((ra.ext pp.pure).ext e2.pure).sl lo hi
theorem Ev.slcS {lower upper : Option Expr} {lo hi : Option Int} {p : Pos} {l : List Nat} (hv : Ev n c value (.str l)) (hlo : Pt n c lower lo) (hhi : Pt n c upper hi) (hz : l.length ≤ sizeLine) :
    Ev n c (.Subscript value (.Slice lower upper none p) pos) (.str (sl lo hi l)) := by
  intro ok A s Q E rm st k
  refine Subscript_ (hv ok A s _ _ rm st fun v₁ s₁ p₁ r₁ => ?_)
  have st₁ := st.pure p₁
  refine wpAny_Slice (hlo.run ok rm st₁ fun v₂ s₂ o₂ p₂ e₂ q₂ => hhi.run ok rm (st₁.pure p₂) fun v₃ s₃ o₃ p₃ e₃ q₃ => wpAny_evalPart_none ?_)
  have p := (p₁.trans p₂).trans p₃
  obtain ⟨t, rfl⟩ := r₁.str_inv
  have pp : Pure s₃ { s₃ with heap := s₃.heap.push { cls := .type "slice", data := .fields #[v₂, v₃, .none] } } := .push
  subst e₂ e₃
  refine tail_any (T := "str") (typeIs_str _ _ t) F.slot_str_getitem.lookup ?_ (ops := [.ref s₃.heap.objs.size, .str ⟨l.toArray⟩ t]) rfl
  refine wpAny_getItem_str_slice (l := o₂) (u := o₃) (st := none) ⟨_, Heap.get?_push_size _ rfl, rfl, rfl⟩ rfl ?_
  have e : ((slicePicked ⟨l.toArray⟩ o₂ o₃ none).filterMap ((⟨l.toArray⟩ : Str).cps[·]?)) = sl lo hi l := by
    have := strPick_sl l lo hi
    unfold slicePicked Str.length
    simp only [q₂, q₃]
    simpa using this
  unfold sliceMade
  split
  · rename_i hlen
    refine k _ _ (p.trans pp) ?_
    rw [Rep]
    refine ⟨t, ?_⟩
    have : sl lo hi l = l := by
      apply sl_full
      rw [← strPick_len]
      unfold slicePicked Str.length at hlen
      simpa [q₂, q₃] using hlen
    rw [this]
  · show Made.post (.str _) _ _
    rw [e]
    refine ⟨?_, k _ _ (p.trans (pp.trans .toks)) ?_⟩
    · show (Str.length ⟨(sl lo hi l).toArray⟩) ≤ sizeLine
      have := sl_length lo hi l
      simp [Str.length]; lia
    · exact Rep.str'
end
end Mine
end
section
open PySem PySem.W PyProof.Rows
set_option Elab.async false
set_option linter.unusedVariables false
namespace Mine

section
variable {n : Nat} {c : Cx} {pos : Pos} {d d₁ d₂ : D} {x y : Expr} {b b' : Bool}

theorem Ev.list {es : List Expr} {ds : List D} (h : Evs n c es ds) (hz : ds.length ≤ sizeLine := by decide) : Ev n c (.List es pos) (.lst ds) := by
  intro ok A s Q E rm st k
  refine List_ (h ok A s _ _ _ rm st fun vs s₁ p₁ r₁ => ?_)
  have st₁ := st.pure p₁
  unfold newList
  refine wpAny_newObj_type (k _ _ (p₁.trans .push) ?_) (by show vs.toArray.size ≤ sizeLine; simpa [r₁.length] using hz)
  have pp : Pure s₁ { s₁ with heap := s₁.heap.push { cls := .type "list", data := .seq vs.toArray } } := .push
  exact Rep.lst' (fresh_not st₁.low) ⟨0, Heap.get?_push_size _ rfl⟩ (r₁.ext pp.pure)
theorem Ev.tuple {es : List Expr} {kk : Nat} {ds : List D} (h : Evs n c es ds) (hz : ds.length ≤ sizeLine := by decide) : Ev n c (.Tuple es kk pos) (.tup ds) := by
  intro ok A s Q E rm st k
  refine Tuple_ (h ok A s _ _ _ rm st fun vs s₁ p₁ r₁ => ?_)
  have st₁ := st.pure p₁
  unfold newTuple
  refine wpAny_newObj_type (k _ _ (p₁.trans .push) ?_) (by show vs.toArray.size ≤ sizeLine; simpa [r₁.length] using hz)
  have pp : Pure s₁ { s₁ with heap := s₁.heap.push { cls := .type "tuple", data := .seq vs.toArray } } := .push
  exact Rep.tup' (fresh_not st₁.low) ⟨_, Heap.get?_push_size _ rfl, rfl, 0, rfl⟩ (r₁.ext pp.pure)

theorem Tv.and (hx : Tv n c x b) (hy : b = true → Tv n c y b') : Tv n c (.BoolOp .And [x, y] pos) (b && b') := by
  intro ok A s Q E rm st k
  refine wpAny_isTrue_BoolOp (wpAny_allTrue_And_cons (hx ok A s _ _ rm st fun s₁ p₁ => ?_))
  cases b with
  | false => exact k s₁ p₁
  | true =>
    refine wpAny_allTrue_And_cons (hy rfl ok A s₁ _ _ rm (st.pure p₁) fun s₂ p₂ => ?_)
    cases b' with
    | false => exact k s₂ (p₁.trans p₂)
    | true => exact wpAny_allTrue_And_nil (k s₂ (p₁.trans p₂))
theorem Tv.or (hx : Tv n c x b) (hy : b = false → Tv n c y b') : Tv n c (.BoolOp .Or [x, y] pos) (b || b') := by
  intro ok A s Q E rm st k
  refine wpAny_isTrue_BoolOp (wpAny_allTrue_Or_cons (hx ok A s _ _ rm st fun s₁ p₁ => ?_))
  cases b with
  | true => exact k s₁ p₁
  | false =>
    refine wpAny_allTrue_Or_cons (hy rfl ok A s₁ _ _ rm (st.pure p₁) fun s₂ p₂ => ?_)
    cases b' with
    | true => exact k s₂ (p₁.trans p₂)
    | false => exact wpAny_allTrue_Or_nil (k s₂ (p₁.trans p₂))
theorem Ev.and (hx : Ev n c x (.bool b)) (hy : b = true → Ev n c y (.bool b')) : Ev n c (.BoolOp .And [x, y] pos) (.bool (b && b')) := by
  intro ok A s Q E rm st k
  refine wpAny_And2 (hx ok A s _ _ rm st fun v s₁ p₁ r₁ => ?_)
  rw [r₁.bool_inv]
  refine wpAny_truthy_bool ?_
  cases b with
  | false => exact k _ s₁ p₁ Rep.bool'
  | true => exact hy rfl ok A s₁ _ _ rm (st.pure p₁) fun v s₂ p₂ r₂ => k v s₂ (p₁.trans p₂) r₂
theorem Ev.ifexp {t : Expr} (ht : Tv n c t b) (hx : b = true → Ev n c x d) (hy : b = false → Ev n c y d) : Ev n c (.IfExp t x y pos) d := by
  intro ok A s Q E rm st k
  refine wpAny_IfExp (ht ok A s _ _ rm st fun s₁ p₁ => ?_)
  cases b with
  | true => exact hx rfl ok A s₁ _ _ rm (st.pure p₁) fun v s₂ p₂ r₂ => k v s₂ (p₁.trans p₂) r₂
  | false => exact hy rfl ok A s₁ _ _ rm (st.pure p₁) fun v s₂ p₂ r₂ => k v s₂ (p₁.trans p₂) r₂
theorem Ev.un {op : UnaryOp} (hx : Ev n c x d₁) (ho : Op1 n c.w (unaryOp op) d₁ d) : Ev n c (.UnaryOp op x pos) d :=
  fun ok A s Q E rm st k => wpAny_UnaryOp (hx ok A s _ _ rm st fun v s₁ p₁ r₁ => ho c.X A s₁ v _ _ rm (st.pure p₁).low r₁ fun v' s₂ p₂ r₂ => k v' s₂ (p₁.trans p₂) r₂)
theorem Tv.or3 {z : Expr} {b'' : Bool} (hx : Tv n c x b) (hy : b = false → Tv n c y b') (hz : b = false → b' = false → Tv n c z b'') : Tv n c (.BoolOp .Or [x, y, z] pos) (b || (b' || b'')) := by
  intro ok A s Q E rm st k
  refine wpAny_isTrue_BoolOp (wpAny_allTrue_Or_cons (hx ok A s _ _ rm st fun s₁ p₁ => ?_))
  cases b with
  | true => exact k s₁ p₁
  | false =>
    refine wpAny_allTrue_Or_cons (hy rfl ok A s₁ _ _ rm (st.pure p₁) fun s₂ p₂ => ?_)
    cases b' with
    | true => exact k s₂ (p₁.trans p₂)
    | false =>
      refine wpAny_allTrue_Or_cons (hz rfl rfl ok A s₂ _ _ rm ((st.pure p₁).pure p₂) fun s₃ p₃ => ?_)
      cases b'' with
      | true => exact k s₃ ((p₁.trans p₂).trans p₃)
      | false => exact wpAny_allTrue_Or_nil (k s₃ ((p₁.trans p₂).trans p₃))

/-! calls -/
noncomputable def Kp (c : Cx) (f : Value) : Prop := ∀ h, Ext c.h₀ h → ∃ k, (k = Keeper.frame ∨ k = Keeper.machine ∨ k = Keeper.boundFrame) ∧ Looks c.M h (keeperOf f) k
theorem Kp.builtin {c : Cx} {id : String} : Kp c (.builtin id) := fun h _ => ⟨.machine, .inr (.inl rfl), Looks.of_pure rfl⟩
theorem Kp.type {c : Cx} {id : String} : Kp c (.type id) := fun h _ => ⟨.machine, .inr (.inl rfl), Looks.of_pure rfl⟩
theorem Kp.fn {c : Cx} {a : Addr} (ok : Ok c) (e : ∀ w, keepIn (KF w) (.ref a) = true) : Kp c (.ref a) := fun h x =>
  keeps_K (e c.w) h (ok.base.K.keeps x)
theorem starless {es : List Expr} {env : Env} {p : Pos} (h : (starEach es env).any (·.1) = false) : (backTo p (starEach es env)).any (·.1) = false := by
  unfold backTo
  rw [List.any_map]
  rw [List.any_eq_false] at h ⊢
  intro t ht
  exact h t ht
/-- the arguments, then the call -/
theorem callW {f : Value} {first : List Value} {es : List Expr} {ds : List D} (ok : Ok c) (kp : Kp c f) (ha : Evs n c es ds) {A : Around} {s : Shared} {Q : Value → Shared → Prop} {E : Value → Shared → Prop} (rm : Rm n A) (st : St c s)
    (k : ∀ vs s', Pure s s' → RepL c.X s'.heap ds vs → wpAny c.M A (call f (first ++ vs)) Q E s') (hp : (starEach es c.env).any (·.1) = false := by rfl) : wpAny c.M A (callWith pos f first (backTo pos (starEach es c.env)) []) Q E s := by
  have hp' := starless (p := pos) hp
  refine callWith_of (P := fun h => Ext c.h₀ h) (by rw [hp']; rfl) kp ?_
  have key : wpAny c.M A (spliced (backTo pos (starEach es c.env))) (fun vs s' => Ext c.h₀ s'.heap ∧ wpAny c.M A (call f (first ++ vs)) Q E s') E s :=
    ha ok A s pos _ _ rm st fun vs s' p r => ⟨(st.pure p).old, k vs s' p r⟩
  revert key hp'
  generalize backTo pos (starEach es c.env) = l
  intro hp' key
  cases l with
  | nil =>
    unfold evalArgs
    show wpAny _ A (spliced [] >>= _) _ E s
    refine wpAny_bind (wpAny_mono key (fun vs s' h' => ?_) fun _ _ x => x)
    refine wpAny_bind (wpAny_pure ?_)
    refine wpAny_holding ?_
    exact wpAny_bind (wpAny_pure (wpAny_bind (wpAny_pure (wpAny_pure h'))))
  | cons a r =>
    obtain ⟨st, t⟩ := a
    simp only [List.any_cons, Bool.or_eq_false_iff] at hp'
    obtain ⟨rfl, _⟩ := hp'
    exact Calls.evalArgs_plain key
end
end Mine
end
section
open PySem PySem.W PyProof.Rows
set_option Elab.async false
set_option linter.unusedVariables false
namespace Mine

/-- one step of an iterator under a loop's target -/
noncomputable def NextW (w : World) (A : Around) (tg : Expr) (it : Value) (Q : Option Value → Shared → Prop) (E : Value → Shared → Prop) (s : Shared) : Prop :=
  wpAny (model prog w) A (pyNext it) (fun r s₁ => match r with
    | none => Q none s₁
    | some v => wpAny (model prog w) A (letOwnedTupleGo tg it v) (fun _ s₂ => Q (some v) s₂) E s₁) E s

structure ItF (w : World) (h₀ : Heap) (A : Around) (tg : Expr) (own : List Addr) (gs : List Nat) (it : Value) (J : List Addr → List D → Shared → Prop) : Prop where
  keep : ∀ {X ds s s' Y gs'}, J X ds s → Step Y gs' s s' → (∀ a ∈ Y, a ∈ X) → (∀ a ∈ own, a ∉ Y) → (∀ g ∈ gs, g ∉ gs') → J X ds s'
  more : ∀ {X Z ds s}, J X ds s → (∀ a ∈ Z, a ∈ X ∨ s.heap.get? a = none) → J Z ds s
  there : ∀ {X ds s}, J X ds s → Low own s.heap
  next : ∀ {X d ds s Q E}, J X (d :: ds) s → Rm 3 A → Ext h₀ s.heap → Low X s.heap → (∀ a ∈ own, a ∈ X) → (∀ v s', Step own gs s s' → Rep X s'.heap d v → J X ds s' → Q (some v) s') → NextW w A tg it Q E s
  done : ∀ {X s Q E}, J X [] s → Rm 3 A → Ext h₀ s.heap → (∀ s', Step own gs s s' → Q none s') → NextW w A tg it Q E s
  self : ∀ {X ds s} {Q : Value → Shared → Prop} {E}, J X ds s → Rm 3 A → Q it s → wpAny (model prog w) A (pyIter it) Q E s

theorem letOwned_pass {prog : Program} {w : World} {A : Around} {tg : Expr} {I : Addr} {v : Value} {o : Obj} {T : String} {s : Shared} {Q : Unit → Shared → Prop} {E : Value → Shared → Prop} (ho : s.heap.get? I = some o) (hc : o.cls = .type T)
    (hT : (["enumerate", "zip", "dict_itemiterator", "dict_reverseitemiterator", "odict_iterator", "itertools.zip_longest", "itertools.pairwise"] : List String).contains T = false) (h : Q () s) :
    wpAny (model prog w) A (letOwnedTupleGo tg (.ref I) v) Q E s := by
  have key : wpAny (model prog w) A (do
      let (.ref r, .ref a) := (Value.ref I, v) | return ()
      let o ← PySem.load r
      match o.cls, o.data with
      | .type n, .fields vs =>
        if ["enumerate", "zip", "dict_itemiterator", "dict_reverseitemiterator", "odict_iterator", "itertools.zip_longest", "itertools.pairwise"].contains n && vs[0]? == some (rawInt a) then
          rule "for.unpacks-the-owned-tuple"
          updateField r 0 .none
      | _, _ => pure ()) Q E s := by
    cases v with
    | ref a =>
      refine wpAny_bind (wpAny_load ho ?_)
      rw [hc]
      cases o.data with
      | fields vs => dsimp only; rw [hT]; exact wpAny_pure h
      | _ => exact wpAny_pure h
    | _ => exact wpAny_pure h
  unfold letOwnedTupleGo
  cases tg with
  | Tuple => exact key
  | List => exact key
  | _ => exact wpAny_pure h

/-! lists -/
noncomputable def JList (I : Addr) (X : List Addr) (ds : List D) (s : Shared) : Prop :=
  ∃ (l : Addr) (i : Nat) (vs : List Value), s.heap.IsListIter I l i ∧ s.heap.IsList l vs.toArray ∧ l ∉ X ∧ l ≠ I ∧ RepL X s.heap ds (vs.drop i)
theorem drop_cons {α : Type} {vs : List α} {i : Nat} {v : α} {r : List α} (h : vs.drop i = v :: r) : vs[i]? = some v ∧ vs.drop (i + 1) = r := by
  have h1 : (vs.drop i)[0]? = some v := by rw [h]; rfl
  rw [List.getElem?_drop] at h1
  refine ⟨by simpa using h1, ?_⟩
  have : (vs.drop i).drop 1 = r := by rw [h]; rfl
  rw [List.drop_drop] at this
  rw [Nat.add_comm] at this
  simpa [Nat.add_comm] using this
theorem ItF.list (w : World) (h₀ : Heap) (A : Around) (tg : Expr) (I : Addr) : ItF w h₀ A tg [I] [] (.ref I) (JList I) where
  keep := by
    rintro X ds s s' Y gs' ⟨l, i, vs, h1, h2, h3, h4, h5⟩ st hY ho _
    exact ⟨l, i, vs, h1.at fun o e => st.ext _ o (ho I (by simp)) e, h2.at fun o e => st.ext _ o (fun q => h3 (hY _ q)) e, h3, h4, h5.extX (st.ext.mono hY)⟩
  more := by
    rintro X Z ds s ⟨l, i, vs, h1, h2, h3, h4, h5⟩ hZ
    refine ⟨l, i, vs, h1, h2, fun q => ?_, h4, h5.more hZ⟩
    rcases hZ l q with z | z
    · exact h3 z
    · obtain ⟨o, e, _⟩ := h2; rw [z] at e; cases e
  there := by
    rintro X ds s ⟨l, i, vs, ⟨o, e, _⟩, _⟩
    exact Low.cons e Low.nil
  next := by
    rintro X d ds s Q E ⟨l, i, vs, h1, h2, h3, h4, h5⟩ rm old lo ho k
    rw [RepL.cons_iff] at h5
    obtain ⟨v, r, e, a, b⟩ := h5
    obtain ⟨e1, e2⟩ := drop_cons e
    refine wpAny_pyNext_list_item h1 h2 (x := v) (by simpa using e1) fun h' hit hs => ?_
    have st : Step [I] [] s { s with heap := h' } := .but hs (by simp)
    have ex : ExtX X s.heap h' := st.ext.mono (by simpa using ho I)
    obtain ⟨o, g, hc, _⟩ := id hit
    refine letOwned_pass g hc (by decide) (k v _ st (a.extX ex) ⟨l, i + 1, vs, hit, h2.extBut hs.extBut h4, h3, h4, ?_⟩)
    rw [e2]; exact b.extX ex
  done := by
    rintro X s Q E ⟨l, i, vs, h1, h2, h3, h4, h5⟩ rm old k
    rw [RepL.nil_iff] at h5
    have : vs[i]? = none := by
      have := List.drop_eq_nil_iff.mp h5
      exact List.getElem?_eq_none this
    exact wpAny_pyNext_list_end rm.handled h1 h2 (by simpa using this) fun h' hx => k _ (.extBut hx (by simp))
  self := by
    rintro X ds s Q E ⟨l, i, vs, h1, _⟩ rm k
    exact wpAny_pyIter_listiter h1 k

/-! ranges -/
noncomputable def JRange (I : Addr) (X : List Addr) (ds : List D) (s : Shared) : Prop :=
  ∃ (i : Int) (n : Nat), IsRangeIter s.heap I i n 1 ∧ ds = (List.range n).map fun (k : Nat) => D.int (i + k)
theorem ItF.range (w : World) (h₀ : Heap) (A : Around) (tg : Expr) (I : Addr) : ItF w h₀ A tg [I] [] (.ref I) (JRange I) where
  keep := by
    rintro X ds s s' Y gs' ⟨i, n, h1, h2⟩ st hY ho _
    exact ⟨i, n, st.ext _ _ (ho I (by simp)) h1, h2⟩
  more := by rintro X Z ds s ⟨i, n, h1, h2⟩ _; exact ⟨i, n, h1, h2⟩
  there := by rintro X ds s ⟨i, n, h1, _⟩; exact Low.cons h1 Low.nil
  next := by
    rintro X d ds s Q E ⟨i, n, h1, h2⟩ rm old lo ho k
    cases n with
    | zero => cases h2
    | succ n =>
      rw [List.range_succ_eq_map, List.map_cons, List.map_map] at h2
      injection h2 with e1 e2
      refine wpAny_pyNext_range_item h1 (by lia) fun h' hit hs => ?_
      refine letOwned_pass hit rfl (by decide) (k _ _ (.but hs (by simp)) ?_ ⟨i + 1, n, ?_, ?_⟩)
      · rw [e1]; simpa using Rep.int'
      · have : ((n + 1 : Nat) : Int) - 1 = (n : Int) := by lia
        rw [← this]; exact hit
      · rw [e2]
        apply List.map_congr_left
        intro a _
        simp
        lia
  done := by
    rintro X s Q E ⟨i, n, h1, h2⟩ rm old k
    cases n with
    | zero => exact wpAny_pyNext_range_end rm.handled h1 (by simp) fun h' hx => k _ (.extBut hx (by simp))
    | succ n => rw [List.range_succ_eq_map] at h2; cases h2
  self := by
    rintro X ds s Q E ⟨i, n, h1, _⟩ rm k
    exact wpAny_pyIter_rangeiter h1 k

/-! texts of ASCII signs -/
noncomputable def JStr (I : Addr) (X : List Addr) (ds : List D) (s : Shared) : Prop :=
  ∃ (l : List Nat) (t : Tok) (i : Nat), s.heap.IsStrIter I "str_ascii_iterator" ⟨l.toArray⟩ t i ∧ ds = (l.drop i).map fun c => D.str [c]
theorem ItF.str (w : World) (h₀ : Heap) (A : Around) (tg : Expr) (I : Addr) : ItF w h₀ A tg [I] [] (.ref I) (JStr I) where
  keep := by
    rintro X ds s s' Y gs' ⟨l, t, i, ⟨o, e, r⟩, h2⟩ st hY ho _
    exact ⟨l, t, i, ⟨o, st.ext _ _ (ho I (by simp)) e, r⟩, h2⟩
  more := by rintro X Z ds s ⟨i, n, h1, h2⟩ _; exact ⟨i, n, h1, h2⟩
  there := by rintro X ds s ⟨l, t, i, ⟨o, e, r⟩, h2⟩; exact Low.cons e Low.nil
  next := by
    rintro X d ds s Q E ⟨l, t, i, h1, h2⟩ rm old lo ho k
    cases hd : l.drop i with
    | nil => rw [hd] at h2; cases h2
    | cons c r =>
      rw [hd, List.map_cons] at h2
      injection h2 with e1 e2
      obtain ⟨g1, g2⟩ := drop_cons hd
      refine wpAny_pyNext_ascii_item h1 (c := c) (by simpa using g1) fun h' hit hs => ?_
      obtain ⟨o, g, hc, _⟩ := id hit
      refine letOwned_pass g hc (by decide) (k _ _ (.but hs (by simp)) ?_ ⟨l, t, i + 1, hit, ?_⟩)
      · rw [e1]; rw [Rep]; exact ⟨_, rfl⟩
      · rw [e2, g2]
  done := by
    rintro X s Q E ⟨l, t, i, h1, h2⟩ rm old k
    have : l[i]? = none := by
      have := List.drop_eq_nil_iff.mp (List.map_eq_nil_iff.mp h2.symm)
      exact List.getElem?_eq_none this
    exact wpAny_pyNext_ascii_end rm.handled h1 (by simpa using this) fun h' hx => k _ (.extBut hx (by simp))
  self := by
    rintro X ds s Q E ⟨l, t, i, h1, _⟩ rm k
    exact wpAny_pyIter_striter_ascii h1 k

/-! enumerate over a list, its pairs taken apart -/
noncomputable def enumD : Nat → List D → List D
  | _, [] => []
  | i, d :: ds => .tup [.int i, d] :: enumD (i + 1) ds
noncomputable def JEnum (u I : Addr) (X : List Addr) (ds : List D) (s : Shared) : Prop :=
  ∃ (l : Addr) (i : Nat) (vs : List Value) (es : List D) (old : Value), IsEnum s.heap u I (i : Nat) old ∧ s.heap.IsListIter I l i ∧ s.heap.IsList l vs.toArray ∧ l ∉ X ∧ l ≠ I ∧ l ≠ u ∧ RepL X s.heap es (vs.drop i) ∧ ds = enumD i es
theorem ItF.enum (w : World) (h₀ : Heap) (A : Around) {es : List Expr} {k : Nat} {p : Pos} (e I : Addr) (hne : e ≠ I) : ItF w h₀ A (.Tuple es k p) [e, I] [] (.ref e) (JEnum e I) where
  keep := by
    rintro X ds s s' Y gs' ⟨l, i, vs, es, old, h0, h1, h2, h3, h4, h6, h5, h7⟩ st hY ho _
    exact ⟨l, i, vs, es, old, st.ext _ _ (ho e (by simp)) h0, h1.at fun o e => st.ext _ o (ho I (by simp)) e, h2.at fun o e => st.ext _ o (fun q => h3 (hY _ q)) e, h3, h4, h6, h5.extX (st.ext.mono hY), h7⟩
  more := by
    rintro X Z ds s ⟨l, i, vs, es, old, h0, h1, h2, h3, h4, h6, h5, h7⟩ hZ
    refine ⟨l, i, vs, es, old, h0, h1, h2, fun q => ?_, h4, h6, h5.more hZ, h7⟩
    rcases hZ l q with z | z
    · exact h3 z
    · obtain ⟨o, e, _⟩ := h2; rw [z] at e; cases e
  there := by
    rintro X ds s ⟨l, i, vs, es, old, h0, ⟨o, g, _⟩, _⟩
    exact Low.cons h0 (Low.cons g Low.nil)
  next := by
    rintro X d ds s Q E ⟨l, i, vs, es, old, h0, h1, h2, h3, h4, h6, h5, h7⟩ rm old lo ho k
    cases es with
    | nil => cases h7
    | cons x es =>
      rw [enumD] at h7
      injection h7 with q1 q2
      rw [RepL.cons_iff] at h5
      obtain ⟨v, r, ed, a, b⟩ := h5
      obtain ⟨e1, e2⟩ := drop_cons ed
      refine wpAny_pyNext_enum_item h0 h1 h2 (x := v) (by simpa using e1) hne fun h' he hit hT hsz hk => ?_
      refine wpAny_letOwnedTupleGo_enum he fun h'' he' hs' => ?_
      have hk' : ∀ b o, b ≠ e → b ≠ I → s.heap.get? b = some o → h''.get? b = some o := fun b o n1 n2 g => hs'.extBut b o n1 (hk b o n1 n2 g)
      have st : Step [e, I] [] s { s with heap := h'', toks := s.toks + 1 } := .heap fun b o n g => hk' b o (fun q => n (by simp [q])) (fun q => n (by simp [q])) g
      have ex : ExtX X s.heap h'' := st.ext.mono ho
      have sizes : s.heap.objs.size ≠ e := fun q => by have := get_size s.heap; rw [q, h0] at this; cases this
      refine k _ _ st ?_ ⟨l, i + 1, vs, es, _, he', ?_, h2.at fun o g => hk' l o h6 h4 g, h3, h4, h6, ?_, ?_⟩
      · rw [q1]
        refine Rep.tup' (vs := [.int i s.toks, v]) lo.fresh ⟨_, hs'.extBut _ _ sizes hT, rfl, 0, rfl⟩ (.cons Rep.int' (.cons (a.extX ex) .nil))
      · obtain ⟨o, g, r⟩ := hit
        exact ⟨o, hs'.extBut _ _ (Ne.symm hne) g, r⟩
      · rw [e2]; exact b.extX ex
      · rw [q2]
  done := by
    rintro X s Q E ⟨l, i, vs, es, old, h0, h1, h2, h3, h4, h6, h5, h7⟩ rm old k
    cases es with
    | cons x es => cases h7
    | nil =>
      rw [RepL.nil_iff] at h5
      have : vs[i]? = none := by
        have := List.drop_eq_nil_iff.mp h5
        exact List.getElem?_eq_none this
      exact wpAny_pyNext_enum_end rm.handled h0 h1 h2 (by simpa using this) fun h' hx => k _ (.heap fun b o n g => hx b o (fun q => n (by simp [q])) g)
  self := by
    rintro X ds s Q E ⟨l, i, vs, es, old, h0, _⟩ rm k
    exact wpAny_pyIter_enum h0 k

/-- an iterator: its own objects may grow -/
structure ItK (w : World) (h₀ : Heap) (A : Around) (tg : Expr) (gs : List Nat) (it : Value) (J : List Addr → List Addr → List D → Shared → Prop) : Prop where
  keep : ∀ {io X ds s s' Y gs'}, J io X ds s → Step Y gs' s s' → (∀ a ∈ Y, a ∈ X) → (∀ a ∈ io, a ∉ Y) → (∀ g ∈ gs, g ∉ gs') → J io X ds s'
  more : ∀ {io X Z ds s}, J io X ds s → (∀ a ∈ Z, a ∈ X ∨ s.heap.get? a = none) → J io Z ds s
  there : ∀ {io X ds s}, J io X ds s → Low io s.heap
  next : ∀ {io X d ds s Q E}, J io X (d :: ds) s → Rm 3 A → Ext h₀ s.heap → Low X s.heap → (∀ a ∈ io, a ∈ X) →
    (∀ v s' io', Step io gs s s' → (∀ a ∈ io', a ∈ io ∨ s.heap.get? a = none) → (∀ a ∈ io, a ∈ io') → Rep (io' ++ X) s'.heap d v → J io' (io' ++ X) ds s' → Q (some v) s') → NextW w A tg it Q E s
  done : ∀ {io X s Q E}, J io X [] s → Rm 3 A → Ext h₀ s.heap → (∀ s', Step io gs s s' → Q none s') → NextW w A tg it Q E s
  self : ∀ {io X ds s} {Q : Value → Shared → Prop} {E}, J io X ds s → Rm 3 A → Q it s → wpAny (model prog w) A (pyIter it) Q E s
theorem ItF.up {w h₀ A tg own gs it J} (f : ItF w h₀ A tg own gs it J) : ItK w h₀ A tg gs it (fun io X ds s => io = own ∧ J X ds s) where
  keep := by rintro io X ds s s' Y gs' ⟨rfl, h⟩ st hY ho hg; exact ⟨rfl, f.keep h st hY ho hg⟩
  more := by rintro io X Z ds s ⟨rfl, h⟩ hZ; exact ⟨rfl, f.more h hZ⟩
  there := by rintro io X ds s ⟨rfl, h⟩; exact f.there h
  next := by
    rintro io X d ds s Q E ⟨rfl, h⟩ rm old lo ho k
    have sub : ∀ a ∈ io ++ X, a ∈ X := fun a m => (List.mem_append.mp m).elim (ho a) id
    exact f.next h rm old lo ho fun v s' st r hJ => k v s' io st (fun a m => .inl m) (fun a m => m) (r.less sub) ⟨rfl, f.more hJ fun a m => .inl (sub a m)⟩
  done := by rintro io X s Q E ⟨rfl, h⟩ rm old k; exact f.done h rm old k
  self := by rintro io X ds s Q E ⟨rfl, h⟩ rm k; exact f.self h rm k

/-- an iterable: its value, then its iterator -/
noncomputable def EvI (n : Nat) (c : Cx) (e : Expr) (tg : Expr) (ds : List D) : Prop :=
  Ok c → ∀ (A : Around) (s : Shared) (Q : Value → Shared → Prop) (E : Value → Shared → Prop), Rm n A → St c s →
    (∀ it io gs J s', ItK c.w c.h₀ A tg gs it J → Pure s s' → (∀ a ∈ io, s.heap.get? a = none) → (∀ g ∈ gs, s.gens[g]? = none) → J io (io ++ c.X) ds s' → Q it s') →
    wpAny c.M A (eval e c.env) (fun x s₁ => wpAny c.M A (pyIter x) Q E s₁) E s

theorem get_push_old {h : Heap} {o : Obj} {a : Addr} {o' : Obj} (e : h.get? a = some o') : (h.push o).get? a = some o' := Heap.get?_push_of_some _ e
section
variable {n : Nat} {c : Cx} {e : Expr} {tg : Expr}
theorem none_of_ext {s s' : Shared} {a : Addr} (p : Pure s s') (e : s'.heap.get? a = none) : s.heap.get? a = none := by
  cases q : s.heap.get? a with
  | none => rfl
  | some o => have := p.pure _ _ q; rw [e] at this; cases this
theorem EvI.lst {ds : List D} (h : Ev n c e (.lst ds)) : EvI n c e tg ds := by
  intro ok A s Q E rm st k
  refine h ok A s _ _ rm st fun v s₁ p₁ r₁ => ?_
  obtain ⟨a, vs, rfl, na, ia, ra⟩ := r₁.lst_inv
  refine wpAny_pyIter_list ia ?_
  have fr := get_size s₁.heap
  have pp : Pure s₁ { s₁ with heap := s₁.heap.push { cls := .type "list_iterator", data := .fields #[.ref a, .int 0 0] } } := .push
  have hne : a ≠ s₁.heap.objs.size := fun q => by obtain ⟨o, e, _⟩ := ia; rw [q, fr] at e; cases e
  refine k _ [s₁.heap.objs.size] [] _ _ (ItF.list c.w c.h₀ A tg _).up (p₁.trans pp) (by intro b hb; simp at hb; subst hb; exact none_of_ext p₁ fr) (by simp) ?_
  refine ⟨rfl, a, 0, vs, ⟨_, Heap.get?_push_size _ rfl, rfl, rfl⟩, ia.at fun o e => pp.pure _ _ e, ?_, hne, ?_⟩
  · intro q
    rcases List.mem_append.mp q with q | q
    · simp at q; exact hne q
    · exact na q
  · refine (ra.more (Y := [s₁.heap.objs.size] ++ c.X) fun b hb => ?_).ext pp.pure
    rcases List.mem_append.mp hb with q | q
    · simp at q; subst q; exact .inr fr
    · exact .inl q
theorem EvI.str {l : List Nat} (h : Ev n c e (.str l)) (ha : l.all (· < 128) = true) : EvI n c e tg (l.map fun x => D.str [x]) := by
  intro ok A s Q E rm st k
  refine h ok A s _ _ rm st fun v s₁ p₁ r₁ => ?_
  obtain ⟨t, rfl⟩ := r₁.str_inv
  refine wpAny_pyIter_ascii (by simpa using ha) ?_
  have pp : Pure s₁ { s₁ with heap := s₁.heap.push { cls := .type "str_ascii_iterator", data := .fields #[.str ⟨l.toArray⟩ t, .int 0 0] } } := .push
  refine k _ [s₁.heap.objs.size] [] _ _ (ItF.str c.w c.h₀ A tg _).up (p₁.trans pp) (by intro b hb; simp at hb; subst hb; exact none_of_ext p₁ (get_size _)) (by simp) ?_
  exact ⟨rfl, l, t, 0, ⟨_, Heap.get?_push_size _ rfl, rfl, rfl⟩, rfl⟩
end
end Mine
end
section
open PySem PySem.W PyProof.Rows
set_option Elab.async false
set_option linter.unusedVariables false
namespace Mine

section
variable {n : Nat} {c : Cx} {x : Str} {p pos apos : Pos} {es : List Expr} {ds : List D} {d d₀ : D} {w : World} {h₀ : Heap}

theorem Ev.call {a : Addr} (ha : Evs n c es ds) (hf : Fn n c.w c.h₀ (.ref a) ds d) (hk : c.env.kindOf x = some .globalImplicit := by rfl) (e : ∀ w, nsIn (KF w) mainGlobals x = some (some (.ref a)) := by intro _; rfl)
    (kp : ∀ w, keepIn (KF w) (.ref a) = true := by intro _; rfl) (hx : (x == ("__debug__" : Str)) = false := by rfl) (hp : (starEach es c.env).any (·.1) = false := by rfl) : Ev n c (.Call (.Name x p) es [] pos) d := by
  intro ok A s Q E rm st k
  refine wpAny_Call_ofName (Ev.global (n := n) hk e hx ok A s _ _ rm st fun v s₁ p₁ r₁ => ?_)
  rw [r₁.ref_inv]
  refine callW ok (Kp.fn ok kp) ha rm (st.pure p₁) (fun vs s₂ p₂ r₂ => ?_) hp
  have st₂ := (st.pure p₁).pure p₂
  exact hf c.X A s₂ vs _ _ rm st₂.old st₂.low ok.new r₂ fun v s₃ p₃ r₃ => k v s₃ ((p₁.trans p₂).trans p₃) r₃
theorem Ev.callB {f : Value} (hv : bootBuiltins x = some f) (kp : Kp c f) (ha : Evs n c es ds) (hf : Fn n c.w c.h₀ f ds d) (hk : c.env.kindOf x = some .globalImplicit := by rfl) (e : ∀ w, nsIn (KF w) mainGlobals x = some none := by intro _; rfl)
    (hn : x ≠ "__name__" := by decide) (hx : (x == ("__debug__" : Str)) = false := by rfl) (hp : (starEach es c.env).any (·.1) = false := by rfl) : Ev n c (.Call (.Name x p) es [] pos) d := by
  intro ok A s Q E rm st k
  refine wpAny_Call_ofName (builtinName ok st hv ?_ hk e hn hx)
  refine callW ok kp ha rm st (fun vs s₂ p₂ r₂ => ?_) hp
  have st₂ := st.pure p₂
  exact hf c.X A s₂ vs _ _ rm st₂.old st₂.low ok.new r₂ fun v s₃ p₃ r₃ => k v s₃ (p₂.trans p₃) r₃
/-- a built-in type's method -/
theorem Ev.meth {o : Expr} {T id : String} {name : Str} (pa : PlainAttrs T) (sl : Slot T name id) (hty : typeOf (.builtin id) = pure (.type "method_descriptor"))
    (hT : ∀ X (s : Shared) v, Rep X s.heap d₀ v → s.TypeIs v T ∧ ∀ a, v = .ref a → ∃ ob, s.heap.get? a = some ob ∧ ob.dict = none)
    (ho : Ev n c o d₀) (ha : Evs n c es ds) (hf : Fn n c.w c.h₀ (.builtin id) (d₀ :: ds) d)
    (hfew : ((backTo pos (starEach es c.env)).all (fun x => !x.1) && (backToKw pos (keywordEach [] c.env)).all (fun x => x.1.isSome) && decide (es.length + ([] : List Keyword).length + (if ([] : List Keyword).isEmpty then 0 else 1) < 30)) = true := by rfl)
    (hp : (starEach es c.env).any (·.1) = false := by rfl) (hb : attributeBase o name c.env (eval o c.env) = eval o c.env := by rfl) (hline : (apos.endLine == pos.line) = true := by rfl) : Ev n c (.Call (.Attribute o name apos) es [] pos) d := by
  intro ok A s Q E rm st k
  refine wpAny_Call_method hb hfew hline pa sl hty (ho ok A s _ _ rm st fun v s₁ p₁ r₁ => ⟨(hT _ _ _ r₁).1, (hT _ _ _ r₁).2, ?_⟩)
  refine callW ok Kp.builtin ha rm (st.pure p₁) (fun vs s₂ p₂ r₂ => ?_) hp
  have st₂ := (st.pure p₁).pure p₂
  exact hf c.X A s₂ (v :: vs) _ _ rm st₂.old st₂.low ok.new (.cons (r₁.ext p₂.pure) r₂) fun v s₃ p₃ r₃ => k v s₃ ((p₁.trans p₂).trans p₃) r₃
theorem mT_lst {ds : List D} : ∀ X (s : Shared) v, Rep X s.heap (.lst ds) v → s.TypeIs v "list" ∧ ∀ a, v = .ref a → ∃ ob, s.heap.get? a = some ob ∧ ob.dict = none := fun X s v r => by
  obtain ⟨a, vs, rfl, na, ⟨m, ia⟩, ra⟩ := r.lst_invP
  exact ⟨⟨_, ia, rfl⟩, fun b e => by cases e; exact ⟨_, ia, rfl⟩⟩
theorem mT_str {l : List Nat} : ∀ X (s : Shared) v, Rep X s.heap (.str l) v → s.TypeIs v "str" ∧ ∀ a, v = .ref a → ∃ ob, s.heap.get? a = some ob ∧ ob.dict = none := fun X s v r => by
  obtain ⟨t, rfl⟩ := r.str_inv
  exact ⟨typeIs_str s _ t, fun b e => by cases e⟩

/-! built-in functions -/
theorem fn_len {ds : List D} (h : ds.length < 2 ^ 62) : Fn n w h₀ (.builtin "len") [.lst ds] (.int ds.length) := fun X A s vs Q E rm old lo nw r k => by
  rw [RepL.cons_iff] at r; obtain ⟨v, r', rfl, a, b⟩ := r
  rw [RepL.nil_iff] at b; subst b
  obtain ⟨l, vs, rfl, na, ia, ra⟩ := a.lst_inv
  have := ra.length
  refine len_list ia (by simp; lia) (k _ _ .toks ?_)
  rw [Rep]; exact ⟨_, by simp [this]; rfl⟩
theorem fn_lens {l : List Nat} (h : l.length < 2 ^ 62) : Fn n w h₀ (.builtin "len") [.str l] (.int l.length) := fun X A s vs Q E rm old lo nw r k => by
  rw [RepL.cons_iff] at r; obtain ⟨v, r', rfl, a, b⟩ := r
  rw [RepL.nil_iff] at b; subst b
  obtain ⟨t, rfl⟩ := a.str_inv
  refine P.len_str (by simp [Str.length]; lia) (k _ _ .toks ?_)
  rw [Rep]; exact ⟨_, by simp [Str.length]; rfl⟩
theorem ints_of {X h} : ∀ {ns : List Int} {vs : List Value}, RepL X h (ns.map .int) vs → IntsAre vs ns
  | [], vs, r => by rw [List.map_nil, RepL.nil_iff] at r; subst r; exact .nil
  | i :: ns, vs, r => by
    rw [List.map_cons, RepL.cons_iff] at r
    obtain ⟨v, r', rfl, a, b⟩ := r
    obtain ⟨t, rfl⟩ := a.int_inv
    exact .cons _ _ (ints_of b)
theorem of_ints {X h} : ∀ {ns : List Int} {vs : List Value}, IntsAre vs ns → RepL X h (ns.map .int) vs
  | [], _, .nil => .nil
  | i :: ns, _, .cons _ _ r => .cons Rep.int' (of_ints r)
theorem strs_of {X h} : ∀ {ls : List (List Nat)} {vs : List Value}, RepL X h (ls.map .str) vs → StrsAre vs (ls.map fun l => (⟨l.toArray⟩ : Str))
  | [], vs, r => by rw [List.map_nil, RepL.nil_iff] at r; subst r; exact .nil
  | i :: ns, vs, r => by
    rw [List.map_cons, RepL.cons_iff] at r
    obtain ⟨v, r', rfl, a, b⟩ := r
    obtain ⟨t, rfl⟩ := a.str_inv
    exact .cons _ _ (strs_of b)
theorem preSum_eq (val : Nat → Int) : ∀ (k : Nat) (ns : List Int), k ≤ ns.length → (∀ j, j < k → val j = ns.getD j 0) → preSum val k = (ns.take k).sum := by
  intro k
  induction k with
  | zero => intro ns _ _; rfl
  | succ k ih =>
    intro ns hk hv
    have e : preSum val (k + 1) = preSum val k + val k := by rfl
    rw [e, ih ns (by lia) (fun j hj => hv j (by lia)), hv k (by lia), List.take_add_one]
    have : ns[k]? = some (ns.getD k 0) := by
      rw [List.getD_eq_getElem?_getD, List.getElem?_eq_getElem (by lia)]; simp
    rw [this]
    simp
theorem fn_sum {ns : List Int} (hb : ∀ i ∈ ns, -(2 ^ 50) ≤ i ∧ i ≤ 2 ^ 50) (hl : ns.length ≤ 1000) : Fn n w h₀ (.builtin "sum") [.lst (ns.map .int)] (.int ns.sum) := fun X A s vs Q E rm old lo nw r k => by
  rw [RepL.cons_iff] at r; obtain ⟨v, r', rfl, a, b⟩ := r
  rw [RepL.nil_iff] at b; subst b
  obtain ⟨l, vs, rfl, na, ia, ra⟩ := a.lst_inv
  have hi := ints_of ra
  refine call_sum_walk (wpAny_pyIter_list ia ?_)
  have fr := get_size s.heap
  have hne : l ≠ s.heap.objs.size := fun q => by obtain ⟨o, e, _⟩ := ia; rw [q, fr] at e; cases e
  have pp : Pure s { s with heap := s.heap.push { cls := .type "list_iterator", data := .fields #[.ref l, .int 0 0] } } := .push
  refine ⟨_, _, _, _, _, _, fun j => ns.getD j 0, rfl, Walks.list (A := A.in1) rm.handled _ l hne vs.toArray, ⟨⟨_, Heap.get?_push_size _ rfl, rfl, rfl⟩, ia.at fun o e => pp.pure _ _ e⟩, ?_, ?_, ?_, ?_⟩
  · intro b hb
    rw [Heap.size_push]
    obtain ⟨o, e, _⟩ := ia
    have := Heap.lt_size e
    simp at hb
    rcases hb with q | q
    · rw [q]; exact Nat.lt_succ_self _
    · rw [q]; exact Nat.lt_succ_of_lt this
  · intro i v hv
    have hlen := hi.length
    have hlt : i < vs.length := by
      have := (Array.getElem?_eq_some_iff.mp hv).1
      simpa using this
    have h2 : ns[i]? = some (ns.getD i 0) := by
      rw [List.getD_eq_getElem?_getD, List.getElem?_eq_getElem (by lia)]; simp
    have h3 : (ns.map D.int)[i]? = some (.int (ns.getD i 0)) := by rw [List.getElem?_map, h2]; rfl
    obtain ⟨v', e', r'⟩ := ra.get h3
    obtain ⟨t, rfl⟩ := r'.int_inv
    refine ⟨t, ?_⟩
    have : vs[i]? = some v := by simpa using hv
    rw [e'] at this
    exact (Option.some.inj this).symm
  · intro j hj
    have hlen := hi.length
    have hj' : j < ns.length := by simpa [hlen] using hj
    have bnd : ∀ k, k ≤ ns.length → -(2 ^ 50) * (k : Int) ≤ (ns.take k).sum ∧ (ns.take k).sum ≤ 2 ^ 50 * (k : Int) := by
      intro k
      induction k with
      | zero => intro _; simp
      | succ k ih =>
        intro hk
        obtain ⟨i1, i2⟩ := ih (by lia)
        rw [List.take_add_one, List.getElem?_eq_getElem (by lia)]
        have := hb ns[k] (List.getElem_mem _)
        simp only [Option.toList_some, List.sum_append, List.sum_cons, List.sum_nil]
        constructor <;> push_cast <;> lia
    have e1 : ns.getD j 0 = ns[j] := by rw [List.getD_eq_getElem?_getD, List.getElem?_eq_getElem hj']; rfl
    have b1 := hb ns[j] (List.getElem_mem _)
    have b2 := bnd (j + 1) hj'
    rw [preSum_eq _ (j + 1) ns hj' (fun _ _ => rfl)]
    dsimp only
    rw [e1]
    unfold InLong
    constructor
    · constructor <;> lia
    · push_cast at b2
      constructor <;> lia
  · intro h' tk t' hk
    have hlen := hi.length
    have e : preSum (fun j => ns.getD j 0) vs.toArray.size = ns.sum := by
      rw [preSum_eq _ _ ns (by simp [hlen]) (fun _ _ => rfl)]
      simp [hlen]
    rw [e]
    refine k _ _ (.heap fun b o _ g => hk b o (fun q => ?_) (pp.pure _ _ g)) Rep.int'
    simp at q
    rw [q, fr] at g; cases g
end
end Mine
end
section
open PySem PySem.W PyProof.Rows
set_option Elab.async false
set_option linter.unusedVariables false
namespace Mine

theorem nd_get {α β : Type} {l : List (α × β)} (h : (l.map (·.1)).Nodup) {i j : Nat} {x : α} {y z : β} (hi : l[i]? = some (x, y)) (hj : l[j]? = some (x, z)) : i = j := by
  have e1 : (l.map (·.1))[i]? = some x := by rw [List.getElem?_map, hi]; rfl
  have e2 : (l.map (·.1))[j]? = some x := by rw [List.getElem?_map, hj]; rfl
  exact (List.getElem?_inj (List.getElem?_eq_some_iff.mp e1).1 h).mp (e1.trans e2.symm)
theorem ndc_get {α β : Type} : ∀ {l : List (α × Option β)}, (l.filterMap (·.2)).Nodup → ∀ {i j : Nat} {x y : α} {b : β}, l[i]? = some (x, some b) → l[j]? = some (y, some b) → i = j
  | [], _, i, j, x, y, b, hi, _ => by simp at hi
  | (z, o) :: l, h, i, j, x, y, b, hi, hj => by
    have mem : ∀ {k : Nat} {u : α}, l[k]? = some (u, some b) → b ∈ l.filterMap (·.2) := fun e => List.mem_filterMap.mpr ⟨_, List.mem_of_getElem? e, rfl⟩
    have ht : (l.filterMap (·.2)).Nodup := by
      cases o with
      | none => simpa using h
      | some b' => simp only [List.filterMap_cons] at h; exact (List.nodup_cons.mp h).2
    cases i with
    | zero =>
      simp at hi
      obtain ⟨rfl, rfl⟩ := hi
      simp only [List.filterMap_cons] at h
      cases j with
      | zero => rfl
      | succ j => simp at hj; exact absurd (mem hj) (List.nodup_cons.mp h).1
    | succ i =>
      simp at hi
      cases j with
      | zero =>
        simp at hj
        obtain ⟨rfl, rfl⟩ := hj
        simp only [List.filterMap_cons] at h
        exact absurd (mem hi) (List.nodup_cons.mp h).1
      | succ j => simp at hj; exact congrArg Nat.succ (ndc_get ht hi hj)

section
variable {n : Nat} {c : Cx} {x : Str} {pos : Pos} {d : D} {A : Around} {s : Shared} {v : Value} {E : Value → Shared → Prop}

theorem cell_ne {h : Heap} {L a : Addr} {m ov} (hn : h.Ns L m) (hc : h.IsCell a ov) : a ≠ L := by
  rintro rfl
  obtain ⟨o, es, ep, ho, hd, _⟩ := hn
  obtain ⟨o', ho', hd'⟩ := hc
  rw [ho] at ho'; cases ho'
  rw [hd] at hd'; cases hd'

/-- what the frame itself writes: its own names, no free ones -/
noncomputable def Cx.wr (c : Cx) : List Addr := c.own.filter fun a => decide (c.env.locals ≤ a)
theorem Cx.wr_own {c : Cx} {a : Addr} (h : a ∈ c.wr) : a ∈ c.own := (List.mem_filter.mp h).1
theorem Ok.wr {c : Cx} (ok : Ok c) : ∀ a ∈ c.wr, a ∈ c.X := fun a m => ok.own a (Cx.wr_own m)
theorem Cx.in_wr {c : Cx} {a : Addr} (h : a ∈ c.own) (hl : c.env.locals ≤ a) : a ∈ c.wr := List.mem_filter.mpr ⟨h, decide_eq_true hl⟩
theorem Cx.locals_wr {c : Cx} : c.env.locals ∈ c.wr := Cx.in_wr (List.mem_cons_self ..) (Nat.le_refl _)
/-- a store into a name of the frame -/
theorem store {Q : Unit → Shared → Prop} (i : Nat) {sl} (hi : c.vs[i]? = some (x, sl)) (ok : Ok c) (st : St c s) (r : Rep c.X s.heap d v) (hk : sl = none ∨ c.env.kindOf x = some .cell) (hle : ∀ a, sl = some a → c.env.locals ≤ a)
    (k : ∀ s', Step c.wr [] s s' → St (c.set i d) s' → Q () s') : wpAny c.M A (storeName c.env x v) Q E s := by
  have hil : i < c.ds.length := by rw [st.len]; exact (List.getElem?_eq_some_iff.mp hi).1
  have gi : (c.ds.set i (some d))[i]? = some (some d) := by rw [List.getElem?_set]; simp [hil]
  have gj : ∀ j, j ≠ i → (c.ds.set i (some d))[j]? = c.ds[j]? := fun j h => by rw [List.getElem?_set_ne (Ne.symm h)]
  obtain ⟨m, hn, hm⟩ := st.ns
  cases sl with
  | none =>
    refine wpAny_storeName_local (ok.loc x (List.mem_of_getElem? hi)) hn (fun h' hn' hs => ?_) (by rw [ok.kind]; rfl)
    have stp : Step c.wr [] s { s with heap := h', toks := s.toks + 1 } := .but hs Cx.locals_wr
    have ex : ExtX c.X s.heap h' := stp.ext.mono ok.wr
    refine k _ stp ⟨fun b o e => hs.extBut b o (fun q => ?_) (st.old b o e), ?_, by show (c.ds.set i (some d)).length = _; rw [List.length_set]; exact st.len, ⟨_, hn', ?_⟩, ?_⟩
    · have := ok.new _ (ok.own _ (List.mem_cons_self ..)); rw [← q] at this; rw [e] at this; cases this
    · obtain ⟨o, _, _, ho, _⟩ := hn'
      exact st.low.extX (extX_of_but hs.extBut) (Low.cons ho Low.nil)
    · intro j y d' e1 e2
      by_cases q : j = i
      · subst q
        rw [hi] at e1; cases e1
        have e2' : (c.ds.set j (some d))[j]? = some (some d') := e2
        rw [gi] at e2'; cases e2'
        exact ⟨v, by simp, r.extX ex⟩
      · have e2' : (c.ds.set i (some d))[j]? = some (some d') := e2
        rw [gj j q] at e2'
        obtain ⟨v', g, r'⟩ := hm j y d' e1 e2'
        refine ⟨v', ?_, r'.extX ex⟩
        rw [if_neg (fun e => q (nd_get ok.nd (e ▸ e1) hi))]
        exact g
    · intro j y a e1
      obtain ⟨ov, hc, h⟩ := st.cells j y a e1
      have hne := cell_ne hn hc
      obtain ⟨o, g, hd⟩ := hc
      refine ⟨ov, ⟨o, hs.extBut _ _ hne g, hd⟩, fun d' e2 => ?_⟩
      have e2' : (c.ds.set i (some d))[j]? = some (some d') := e2
      rw [gj j (fun q => by rw [q, hi] at e1; cases e1)] at e2'
      obtain ⟨v', g', r'⟩ := h d' e2'
      exact ⟨v', g', r'.extX ex⟩
  | some a =>
    have hk' := hk.resolve_left (by simp)
    obtain ⟨ov, hc, h⟩ := st.cells i x a hi
    have ha : a ∈ c.own := .tail _ (List.mem_filterMap.mpr ⟨_, List.mem_of_getElem? hi, rfl⟩)
    refine wpAny_storeName_cell ok.kind hk' (ok.cel x a (List.mem_of_getElem? hi)).2 hc fun h' hc' hs => ?_
    have stp : Step c.wr [] s { s with heap := h' } := .but hs (Cx.in_wr ha (hle a rfl))
    have ex : ExtX c.X s.heap h' := stp.ext.mono ok.wr
    have hne := cell_ne hn hc
    refine k _ stp ⟨fun b o e => hs.extBut b o (fun q => ?_) (st.old b o e), ?_, by show (c.ds.set i (some d)).length = _; rw [List.length_set]; exact st.len, ⟨m, hn.at' fun o e => hs.extBut _ _ (Ne.symm hne) e, ?_⟩, ?_⟩
    · have := ok.new _ (ok.own _ ha); rw [← q] at this; rw [e] at this; cases this
    · obtain ⟨o, ho, _⟩ := hc'
      exact st.low.extX (extX_of_but hs.extBut) (Low.cons ho Low.nil)
    · intro j y d' e1 e2
      have e2' : (c.ds.set i (some d))[j]? = some (some d') := e2
      rw [gj j (fun q => by rw [q, hi] at e1; cases e1)] at e2'
      obtain ⟨v', g', r'⟩ := hm j y d' e1 e2'
      exact ⟨v', g', r'.extX ex⟩
    · intro j y b e1
      by_cases q : j = i
      · subst q
        rw [hi] at e1; cases e1
        refine ⟨_, hc', fun d' e2 => ?_⟩
        have e2' : (c.ds.set j (some d))[j]? = some (some d') := e2
        rw [gi] at e2'; cases e2'
        exact ⟨v, rfl, r.extX ex⟩
      · obtain ⟨ov', ⟨o, g, hd⟩, h2⟩ := st.cells j y b e1
        have hba : b ≠ a := fun e => q (ndc_get ok.ndc (e ▸ e1) hi)
        refine ⟨ov', ⟨o, hs.extBut _ _ hba g, hd⟩, fun d' e2 => ?_⟩
        have e2' : (c.ds.set i (some d))[j]? = some (some d') := e2
        rw [gj j q] at e2'
        obtain ⟨v', g', r'⟩ := h2 d' e2'
        exact ⟨v', g', r'.extX ex⟩
end
end Mine
end
section
open PySem PySem.W PyProof.Rows
set_option Elab.async false
set_option linter.unusedVariables false
namespace Mine

noncomputable abbrev Cx.wd (c : Cx) (ds : List (Option D)) : Cx := { c with ds := ds }

/-- less is known of the names -/
theorem St.forget {c : Cx} {s : Shared} {ds : List (Option D)} (st : St c s) (hl : ds.length = c.ds.length) (h : ∀ (i : Nat) d, ds[i]? = some (some d) → c.ds[i]? = some (some d)) : St (c.wd ds) s := by
  refine ⟨st.old, st.low, hl.trans st.len, ?_, ?_⟩
  · obtain ⟨m, hn, hm⟩ := st.ns
    exact ⟨m, hn, fun i x d e1 e2 => hm i x d e1 (h i d e2)⟩
  · intro i x a e
    obtain ⟨ov, hc, hv⟩ := st.cells i x a e
    exact ⟨ov, hc, fun d e2 => hv d (h i d e2)⟩

/-- a target that takes a datum -/
noncomputable def Asg (n : Nat) (c : Cx) (tg : Expr) (d : D) (ds' : List (Option D)) : Prop :=
  Ok c → ∀ (A : Around) (s : Shared) (v : Value) (Q : Unit → Shared → Prop) (E : Value → Shared → Prop), Rm n A → St c s → Rep c.X s.heap d v →
    (∀ s', Step c.wr [] s s' → St (c.wd ds') s' → Q () s') → wpAny c.M A (assign tg c.env v) Q E s
noncomputable def AsgL (n : Nat) (c : Cx) (tgs : List Expr) (ds : List D) (ds' : List (Option D)) : Prop :=
  Ok c → ∀ (A : Around) (s : Shared) (vs : List Value) (Q : Unit → Shared → Prop) (E : Value → Shared → Prop), Rm n A → St c s → RepL c.X s.heap ds vs →
    (∀ s', Step c.wr [] s s' → St (c.wd ds') s' → Q () s') → wpAny c.M A (assignInOrder ((assignEach tgs c.env).map (·.2)) vs) Q E s

section
variable {n : Nat} {c : Cx} {x : Str} {p pos : Pos} {d : D}
theorem Asg.name (i : Nat) {sl} (hi : c.vs[i]? = some (x, sl) := by rfl) (hk : sl = none ∨ c.env.kindOf x = some .cell := by first | exact .inl rfl | exact .inr rfl) (hle : ∀ a, sl = some a → c.env.locals ≤ a := by intro a h; cases h <;> repeat (first | exact Nat.le_refl _ | apply Nat.le_succ_of_le)) : Asg n c (.Name x p) d (c.ds.set i (some d)) :=
  fun ok A s v Q E rm st r k => wpAny_assign_Name (store i hi ok st r hk hle k)
theorem AsgL.nil : AsgL n c [] [] c.ds := fun ok A s vs Q E rm st r k => by
  rw [RepL.nil_iff] at r; subst r
  exact wpAny_assignInOrder_none (k s (.refl _ _ _) st)
theorem wr_wd {c : Cx} {ds} : (c.wd ds).wr = c.wr := rfl
theorem AsgL.cons {tg : Expr} {tgs : List Expr} {ds : List D} {ds₁ ds' : List (Option D)} (h1 : Asg n c tg d ds₁) (h2 : AsgL n (c.wd ds₁) tgs ds ds') (hs : assignEach (tg :: tgs) c.env = (false, assign tg c.env) :: assignEach tgs c.env := by rfl) : AsgL n c (tg :: tgs) (d :: ds) ds' := by
  intro ok A s vs Q E rm st r k
  rw [RepL.cons_iff] at r; obtain ⟨v, vs, rfl, a, b⟩ := r
  rw [hs, List.map_cons]
  refine wpAny_assignInOrder_more (h1 ok A s v _ _ rm st a fun s₁ p₁ st₁ => ?_)
  exact h2 (ok.wd _) A s₁ vs _ _ rm st₁ (b.extX (p₁.ext.mono ok.wr)) fun s₂ p₂ st₂ => k s₂ (p₁.trans p₂) st₂
theorem Asg.tuple {tgs : List Expr} {kk : Nat} {ds : List D} {ds' : List (Option D)} (h : AsgL n c tgs ds ds') (hl : (assignEach tgs c.env).length = ds.length := by rfl) (hs : (assignEach tgs c.env).findIdx? (·.1) = none := by rfl) : Asg n c (.Tuple tgs kk p) (.tup ds) ds' := by
  intro ok A s v Q E rm st r k
  obtain ⟨a, vs, rfl, na, ia, ra⟩ := r.tup_inv
  refine wpAny_assign_Tuple rm.handled ia (by rw [hl]; simp [ra.length]) hs fun h' hx => ?_
  have fr := get_size s.heap
  have pp : Pure s { s with heap := h' } := .heap fun b o _ g => hx b o (fun q => by rw [q, fr] at g; cases g) g
  exact h ok A _ vs _ _ rm (st.pure pp) (ra.ext pp.pure) fun s₂ p₂ st₂ => k s₂ ((Step.up pp).trans p₂) st₂

/-! statements -/
variable {A : Around} {s : Shared} {Q : Flow → Shared → Prop} {E : Value → Shared → Prop} {rest : List Stmt} {e : Expr} {spos : Pos} {w' : World} {env' : Env}
theorem sAssign {ds' : List (Option D)} (i : Nat) {sl} (ok : Ok c) (rm : Rm n A) (st : St c s) (he : Ev n c e d)
    (k : ∀ s', Step c.wr [] s s' → St (c.wd ds') s' → wpAny (model prog w') A (execs rest env') Q E s') (hi : c.vs[i]? = some (x, sl) := by rfl) (hd : c.ds.set i (some d) = ds' := by rfl)
    (hk : sl = none ∨ c.env.kindOf x = some .cell := by first | exact .inl rfl | exact .inr rfl) (hle : ∀ a, sl = some a → c.env.locals ≤ a := by intro a h; cases h <;> repeat (first | exact Nat.le_refl _ | apply Nat.le_succ_of_le)) (hsw : swapsWith e (some (.Name x p)) pos.line c.env = pure false := by rfl) (he' : env' = c.env := by rfl) (hw' : w' = c.w := by rfl) :
    wpAny (model prog w') A (execs (.Assign [.Name x p] e pos :: rest) env') Q E s := by
  subst he' hw'
  refine wpAny_execs_cons (wpAny_Assign_Name (he ok A s _ _ rm st fun v s₁ p₁ r₁ => store i hi ok (st.pure p₁) r₁ hk hle fun s₂ p₂ st₂ => ?_) hsw)
  subst hd
  exact k s₂ ((Step.up p₁).trans p₂) st₂
theorem sAssignT {tgs : List Expr} {kk : Nat} {ds' : List (Option D)} (ok : Ok c) (rm : Rm n A) (st : St c s) (he : Ev n c e d) (ha : Asg n c (.Tuple tgs kk p) d ds')
    (k : ∀ s', Step c.wr [] s s' → St (c.wd ds') s' → wpAny (model prog w') A (execs rest env') Q E s') (hsw : swapsWithSole [.Tuple tgs kk p] e pos.line c.env = pure false := by rfl) (hw : swappedStores [.Tuple tgs kk p] e c.env = pure none := by rfl) (he' : env' = c.env := by rfl) (hw' : w' = c.w := by rfl) :
    wpAny (model prog w') A (execs (.Assign [.Tuple tgs kk p] e pos :: rest) env') Q E s := by
  subst he' hw'
  refine wpAny_execs_cons (Assign_Tuple (he ok A s _ _ rm st fun v s₁ p₁ r₁ => ha ok A s₁ v _ _ rm (st.pure p₁) r₁ fun s₂ p₂ st₂ => ?_) hsw hw)
  exact k s₂ ((Step.up p₁).trans p₂) st₂
theorem sIf {t : Expr} {b : Bool} {body orelse : List Stmt} (ok : Ok c) (rm : Rm n A) (st : St c s) (ht : Tv n c t b)
    (k1 : b = true → ∀ s', Pure s s' → St c s' → wpAny (model prog w') A (execs body env') (fun f s' => match f with | .next => wpAny (model prog w') A (execs rest env') Q E s' | f => Q f s') E s')
    (k2 : b = false → ∀ s', Pure s s' → St c s' → wpAny (model prog w') A (execs orelse env') (fun f s' => match f with | .next => wpAny (model prog w') A (execs rest env') Q E s' | f => Q f s') E s') (he' : env' = c.env := by rfl) (hw' : w' = c.w := by rfl) :
    wpAny (model prog w') A (execs (.If t body orelse pos :: rest) env') Q E s := by
  subst he' hw'
  refine wpAny_execs_cons (wpAny_If (ht ok A s _ _ rm st fun s₁ p₁ => ?_))
  cases b with
  | true => exact k1 rfl s₁ p₁ (st.pure p₁)
  | false => exact k2 rfl s₁ p₁ (st.pure p₁)
theorem sReturn (ok : Ok c) (rm : Rm n A) (st : St c s) (he : Ev n c e d) (k : ∀ v s', Pure s s' → Rep c.X s'.heap d v → Q (.ret v) s') (he' : env' = c.env := by rfl) (hw' : w' = c.w := by rfl) : wpAny (model prog w') A (execs (.Return (some e) pos :: rest) env') Q E s := by
  subst he' hw'
  exact wpAny_execs_cons (wpAny_Return_some (he ok A s _ _ rm st fun v s₁ p₁ r₁ => k v s₁ p₁ r₁))
theorem sNil (k : Q .next s) : wpAny (model prog w') A (execs [] env') Q E s := wpAny_execs_nil k
theorem sAug {op : Operator} {d₀ d₁ : D} {ds' : List (Option D)} (i : Nat) {sl} (ok : Ok c) (rm : Rm n A) (st : St c s) (he : Ev n c e d₁) (ho : Op2 n c.w (inplaceOp op) d₀ d₁ d)
    (k : ∀ s', Step c.wr [] s s' → St (c.wd ds') s' → wpAny (model prog w') A (execs rest env') Q E s') (hi : c.vs[i]? = some (x, sl) := by rfl) (h0 : c.ds[i]? = some (some d₀) := by rfl) (hd : c.ds.set i (some d) = ds' := by rfl)
    (hk : sl = none ∨ c.env.kindOf x = some .cell := by first | exact .inl rfl | exact .inr rfl) (hle : ∀ a, sl = some a → c.env.locals ≤ a := by intro a h; cases h <;> repeat (first | exact Nat.le_refl _ | apply Nat.le_succ_of_le)) (hc : (x == ("__classdict__" : Str)) = false := by rfl) (he' : env' = c.env := by rfl) (hw' : w' = c.w := by rfl) :
    wpAny (model prog w') A (execs (.AugAssign (.Name x p) op e pos :: rest) env') Q E s := by
  subst he' hw'
  refine wpAny_execs_cons (wpAny_AugAssign_Name (ldVar (n := n) hi h0 hc ok A s _ _ rm st fun v₀ s₁ p₁ r₁ => he ok A s₁ _ _ rm (st.pure p₁) fun v₁ s₂ p₂ r₂ =>
    ho c.X A s₂ v₀ v₁ _ _ rm ((st.pure p₁).pure p₂).low (r₁.ext p₂.pure) r₂ fun v s₃ p₃ r₃ => store i hi ok (((st.pure p₁).pure p₂).pure p₃) r₃ hk hle fun s₄ p₄ st₄ => ?_))
  subst hd
  exact k s₄ ((Step.up ((p₁.trans p₂).trans p₃)).trans p₄) st₄
end
end Mine
end
section
open PySem PySem.W PyProof.Rows
set_option Elab.async false
set_option linter.unusedVariables false
namespace Mine

/-- the places of a block's own names, cells from n on -/
noncomputable def scopeVs : Nat → List (Str × NameKind) → List (Str × Option Addr)
  | _, [] => []
  | n, (x, k) :: r => if k == .local then (x, none) :: scopeVs n r else if k == .cell then (x, some n) :: scopeVs (n + 1) r else scopeVs n r
theorem scopeVs_name : ∀ {names : List (Str × NameKind)} {n : Nat} {x : Str} {o}, (x, o) ∈ scopeVs n names → x ∈ names.map (·.1)
  | (y, k) :: r, n, x, o, h => by
    unfold scopeVs at h
    split at h
    · rcases List.mem_cons.mp h with e | h
      · cases e; simp
      · exact List.mem_cons_of_mem _ (scopeVs_name h)
    · split at h
      · rcases List.mem_cons.mp h with e | h
        · cases e; simp
        · exact List.mem_cons_of_mem _ (scopeVs_name h)
      · exact List.mem_cons_of_mem _ (scopeVs_name h)
theorem lookup_skip {β : Type} {l : List (Str × β)} {x y : Str} {v : β} (h : x ≠ y) : ((y, v) :: l).lookup x = l.lookup x := by
  rw [List.lookup_cons]
  have : (x == y) = false := by simpa using h
  rw [this]
theorem lookup_hit {β : Type} {l : List (Str × β)} {x : Str} {v : β} : ((x, v) :: l).lookup x = some v := by rw [List.lookup_cons]; simp
theorem scopeVs_loc : ∀ {names : List (Str × NameKind)} {n : Nat} {x : Str}, (names.map (·.1)).Nodup → (x, none) ∈ scopeVs n names → names.lookup x = some .local
  | (y, k) :: r, n, x, nd, h => by
    rw [List.map_cons, List.nodup_cons] at nd
    unfold scopeVs at h
    have step : ∀ {m}, (x, none) ∈ scopeVs m r → ((y, k) :: r).lookup x = some .local := fun h' => by
      rw [lookup_skip (fun (e : x = y) => nd.1 (by have := scopeVs_name h'; rw [e] at this; exact this))]
      exact scopeVs_loc nd.2 h'
    split at h
    · rename_i hk
      rcases List.mem_cons.mp h with e | h
      · cases e; rw [lookup_hit]; simpa using hk
      · exact step h
    · split at h
      · rcases List.mem_cons.mp h with e | h
        · cases e
        · exact step h
      · exact step h
theorem scopeVs_cel : ∀ {names : List (Str × NameKind)} {n : Nat} {x : Str} {a : Addr}, (names.map (·.1)).Nodup → (x, some a) ∈ scopeVs n names → names.lookup x = some .cell
  | (y, k) :: r, n, x, a, nd, h => by
    rw [List.map_cons, List.nodup_cons] at nd
    unfold scopeVs at h
    have step : ∀ {m}, (x, some a) ∈ scopeVs m r → ((y, k) :: r).lookup x = some .cell := fun h' => by
      rw [lookup_skip (fun (e : x = y) => nd.1 (by have := scopeVs_name h'; rw [e] at this; exact this))]
      exact scopeVs_cel nd.2 h'
    split at h
    · rcases List.mem_cons.mp h with e | h
      · cases e
      · exact step h
    · split at h
      · rename_i hk
        rcases List.mem_cons.mp h with e | h
        · cases e; rw [lookup_hit]; simpa using hk
        · exact step h
      · exact step h
theorem cellsFrom_skip : ∀ {names : List (Str × NameKind)} {n : Nat} {acc : List (Str × Addr)} {x : Str}, x ∉ names.map (·.1) → (cellsFrom n names acc).lookup x = acc.lookup x
  | [], n, acc, x, h => rfl
  | (y, k) :: r, n, acc, x, h => by
    rw [List.map_cons, List.mem_cons, not_or] at h
    unfold cellsFrom
    split
    · rw [cellsFrom_skip h.2, lookup_skip h.1]
    · exact cellsFrom_skip h.2
theorem cellsFrom_hit : ∀ {names : List (Str × NameKind)} {n : Nat} {acc : List (Str × Addr)} {x : Str} {a : Addr}, (names.map (·.1)).Nodup → (x, some a) ∈ scopeVs n names → (cellsFrom n names acc).lookup x = some a
  | (y, k) :: r, n, acc, x, a, nd, h => by
    rw [List.map_cons, List.nodup_cons] at nd
    unfold scopeVs at h
    unfold cellsFrom
    split at h
    · rename_i hk
      have hk' : k = .local := by simpa using hk
      subst hk'
      rw [if_neg (by decide)]
      rcases List.mem_cons.mp h with e | h
      · cases e
      · exact cellsFrom_hit nd.2 h
    · split at h
      · rename_i hk
        rw [if_pos hk]
        rcases List.mem_cons.mp h with e | h
        · cases e; rw [cellsFrom_skip nd.1, lookup_hit]
        · exact cellsFrom_hit nd.2 h
      · rename_i hk
        rw [if_neg hk]
        exact cellsFrom_hit nd.2 h
/-- a name that is no cell of the block's own -/
theorem cellsFrom_other : ∀ {names : List (Str × NameKind)} {n : Nat} {acc : List (Str × Addr)} {x : Str}, (∀ k, (x, k) ∈ names → k ≠ .cell) → (cellsFrom n names acc).lookup x = acc.lookup x
  | [], n, acc, x, h => rfl
  | (y, k) :: r, n, acc, x, h => by
    unfold cellsFrom
    split
    · rename_i hk
      rw [cellsFrom_other (fun k' m => h k' (.tail _ m)), lookup_skip]
      rintro rfl
      exact h k (.head _) (by simpa using hk)
    · exact cellsFrom_other fun k' m => h k' (.tail _ m)
theorem scopeVs_ge : ∀ {names : List (Str × NameKind)} {n : Nat} {x : Str} {a : Addr}, (x, some a) ∈ scopeVs n names → n ≤ a
  | (y, k) :: r, n, x, a, h => by
    unfold scopeVs at h
    split at h
    · rcases List.mem_cons.mp h with e | h
      · cases e
      · exact scopeVs_ge h
    · split at h
      · rcases List.mem_cons.mp h with e | h
        · cases e; exact Nat.le_refl _
        · exact Nat.le_of_succ_le (scopeVs_ge h)
      · exact scopeVs_ge h
theorem scopeVs_nd : ∀ {names : List (Str × NameKind)} {n : Nat}, (names.map (·.1)).Nodup → ((scopeVs n names).map (·.1)).Nodup
  | [], _, _ => List.nodup_nil
  | (y, k) :: r, n, nd => by
    rw [List.map_cons, List.nodup_cons] at nd
    have hd : ∀ {m o}, (((y, o) :: scopeVs m r).map (·.1)).Nodup := fun {m o} => by
      rw [List.map_cons, List.nodup_cons]
      refine ⟨fun q => ?_, scopeVs_nd nd.2⟩
      obtain ⟨⟨z, o'⟩, hz, e⟩ := List.mem_map.mp q
      simp only at e
      exact nd.1 (e ▸ scopeVs_name hz)
    unfold scopeVs
    split
    · exact hd
    · split
      · exact hd
      · exact scopeVs_nd nd.2
theorem scopeVs_ndc : ∀ {names : List (Str × NameKind)} {n : Nat}, ((scopeVs n names).filterMap (·.2)).Nodup
  | [], _ => List.nodup_nil
  | (y, k) :: r, n => by
    unfold scopeVs
    split
    · simp only [List.filterMap_cons]; exact scopeVs_ndc
    · split
      · simp only [List.filterMap_cons]
        refine List.nodup_cons.mpr ⟨fun q => ?_, scopeVs_ndc⟩
        obtain ⟨⟨z, o'⟩, hz, e⟩ := List.mem_filterMap.mp q
        simp only at e
        subst e
        exact absurd (scopeVs_ge hz) (by lia)
      · exact scopeVs_ndc

theorem bindL_get {ko : Str → Option NameKind} : ∀ {binds : List (Str × Value)} {m : Str → Option Value} {x : Str} {v : Value}, (binds.map (·.1)).Nodup → (x, v) ∈ binds → ko x = some .local → bindL ko binds m x = some v := by
  have skip : ∀ {binds : List (Str × Value)} {m : Str → Option Value} {x : Str}, x ∉ binds.map (·.1) → bindL ko binds m x = m x := by
    intro binds
    induction binds with
    | nil => intro m x _; rfl
    | cons p r ih =>
      intro m x h
      obtain ⟨y, v⟩ := p
      rw [List.map_cons, List.mem_cons, not_or] at h
      rw [bindL, ih h.2]
      split
      · exact if_neg h.1
      · rfl
  intro binds
  induction binds with
  | nil => intro m x v _ h; cases h
  | cons p r ih =>
    intro m x v nd h hk
    obtain ⟨y, u⟩ := p
    rw [List.map_cons, List.nodup_cons] at nd
    rw [bindL]
    rcases List.mem_cons.mp h with e | h
    · cases e
      rw [skip nd.1, if_pos hk]; exact if_pos rfl
    · exact ih nd.2 h hk
theorem bindC_get {ko : Str → Option NameKind} : ∀ {binds : List (Str × Value)} {m : Str → Option Value} {x : Str} {v : Value}, (binds.map (·.1)).Nodup → (x, v) ∈ binds → ko x = some .cell → bindC ko binds m x = some v := by
  have skip : ∀ {binds : List (Str × Value)} {m : Str → Option Value} {x : Str}, x ∉ binds.map (·.1) → bindC ko binds m x = m x := by
    intro binds
    induction binds with
    | nil => intro m x _; rfl
    | cons p r ih =>
      intro m x h
      obtain ⟨y, v⟩ := p
      rw [List.map_cons, List.mem_cons, not_or] at h
      rw [bindC, ih h.2]
      split
      · rfl
      · exact if_neg h.1
  intro binds
  induction binds with
  | nil => intro m x v _ h; cases h
  | cons p r ih =>
    intro m x v nd h hk
    obtain ⟨y, u⟩ := p
    rw [List.map_cons, List.nodup_cons] at nd
    rw [bindC]
    rcases List.mem_cons.mp h with e | h
    · cases e
      rw [skip nd.1, if_neg (by rw [hk]; decide)]; exact if_pos rfl
    · exact ih nd.2 h hk
end Mine
end
section
open PySem PySem.W PyProof.Rows
set_option Elab.async false
set_option linter.unusedVariables false
namespace Mine

/-- what is known of a block's names at its start -/
noncomputable def initDs (names : List (Str × NameKind)) (params : List Str) (args : List D) : List (Option D) := (scopeVs 0 names).map fun p => (params.zip args).lookup p.1
theorem scopeVs_map {β : Type} (f : Str → β) : ∀ (names : List (Str × NameKind)) (n m : Nat), (scopeVs n names).map (fun p => f p.1) = (scopeVs m names).map (fun p => f p.1)
  | [], _, _ => rfl
  | (x, k) :: r, n, m => by
    unfold scopeVs
    split
    · rw [List.map_cons, List.map_cons, scopeVs_map f r n m]
    · split
      · rw [List.map_cons, List.map_cons, scopeVs_map f r (n + 1) (m + 1)]
      · exact scopeVs_map f r n m
theorem zip_mem {X h} : ∀ {params : List Str} {args : List D} {vals : List Value} {x : Str} {d : D}, RepL X h args vals → (params.zip args).lookup x = some d → ∃ v, (x, v) ∈ params.zip vals ∧ Rep X h d v
  | [], args, vals, x, d, r, e => by simp at e
  | p :: ps, [], vals, x, d, r, e => by simp at e
  | p :: ps, a :: as, vals, x, d, r, e => by
    rw [RepL.cons_iff] at r
    obtain ⟨v, vs, rfl, ra, rb⟩ := r
    rw [List.zip_cons_cons, List.lookup_cons] at e
    cases hb : x == p with
    | true =>
      rw [hb] at e; cases e
      have : x = p := by simpa using hb
      subst this
      exact ⟨v, by simp, ra⟩
    | false =>
      rw [hb] at e
      obtain ⟨v', m, r'⟩ := zip_mem rb e
      exact ⟨v', by rw [List.zip_cons_cons]; exact .tail _ m, r'⟩

/-- the context of a call's own block -/
noncomputable abbrev fnCx (w : World) (h₀ : Heap) (X : List Addr) (fd : FuncData) (a L : Addr) (ds : List (Option D)) : Cx :=
  { w, h₀, X := (L :: (scopeVs (L + 1) fd.scope.names).filterMap (·.2)) ++ X, env := callEnvC fd L a, vs := scopeVs (L + 1) fd.scope.names, ds }

theorem bindv1 {fd : FuncData} {params : List Str} {vals : List Value} (h : vals.length = 1) (k : ∀ a, bindArgs fd ⟨[a], []⟩ = pure (params.zip [a])) : bindArgs fd ⟨vals, []⟩ = pure (params.zip vals) := vals1 (P := fun v => bindArgs fd ⟨v, []⟩ = pure (params.zip v)) h k
theorem bindv2 {fd : FuncData} {params : List Str} {vals : List Value} (h : vals.length = 2) (k : ∀ a b, bindArgs fd ⟨[a, b], []⟩ = pure (params.zip [a, b])) : bindArgs fd ⟨vals, []⟩ = pure (params.zip vals) := vals2 (P := fun v => bindArgs fd ⟨v, []⟩ = pure (params.zip v)) h k
theorem bindv3 {fd : FuncData} {params : List Str} {vals : List Value} (h : vals.length = 3) (k : ∀ a b c, bindArgs fd ⟨[a, b, c], []⟩ = pure (params.zip [a, b, c])) : bindArgs fd ⟨vals, []⟩ = pure (params.zip vals) := vals3 (P := fun v => bindArgs fd ⟨v, []⟩ = pure (params.zip v)) h k
theorem bindv4 {fd : FuncData} {params : List Str} {vals : List Value} (h : vals.length = 4) (k : ∀ a b c d, bindArgs fd ⟨[a, b, c, d], []⟩ = pure (params.zip [a, b, c, d])) : bindArgs fd ⟨vals, []⟩ = pure (params.zip vals) := vals4 (P := fun v => bindArgs fd ⟨v, []⟩ = pure (params.zip v)) h k
theorem fn_enter {n : Nat} {w : World} {h₀ : Heap} {a : Addr} {o : Obj} {fd : FuncData} {body : List Stmt} {params : List Str} {args : List D} {d : D} {ds : List (Option D)}
    (B : Base w h₀) (ho : (KF w).lookup a = some o) (hdata : o.data = .func fd) (hbody : fd.body = .stmts body) (hcode : codeIn (KF w) fd.code fd.qualname = true)
    (hclo : fd.closure = []) (hglob : fd.globals = mainGlobals) (hblt : fd.builtins = builtinsNs) (hbind : ∀ vals, vals.length = args.length → bindArgs fd ⟨vals, []⟩ = pure (params.zip vals))
    (nd : (fd.scope.names.map (·.1)).Nodup) (ndp : params.Nodup) (hpl : params.length = args.length) (hpk : ∀ x ∈ params, fd.scope.names.lookup x = some .local ∨ fd.scope.names.lookup x = some .cell)
    (hds : initDs fd.scope.names params args = ds) (hco : fd.scope.isCoroutine = false) (hgen : fd.scope.isGenerator = false) (hkf : fd.scope.kind = .function)
    (run : ∀ (X : List Addr) (A : Around) (s : Shared) (L : Addr) (Q : Flow → Shared → Prop) (E : Value → Shared → Prop), Ok (fnCx w h₀ X fd a L ds) → Rm n A → St (fnCx w h₀ X fd a L ds) s →
      (∀ v s', Step (fnCx w h₀ X fd a L ds).wr [] s s' → Rep X s'.heap d v → Q (.ret v) s') → wpAny (model prog w) A (execs body (fnCx w h₀ X fd a L ds).env) Q E s) :
    Fn (n + 1) w h₀ (.ref a) args d := by
  intro X A s vals Q E rm old low nw r k
  obtain ⟨p, loose, mg, mb, T⟩ := B.T
  have Ks := B.K.keeps old
  refine wpAny_call ?_
  have hlen := r.length
  have zl : (params.zip vals).map (·.1) = params := by rw [List.map_fst_zip]; lia
  have own_ge : ∀ b ∈ s.heap.objs.size :: (scopeVs (s.heap.objs.size + 1) fd.scope.names).filterMap (·.2), s.heap.objs.size ≤ b := by
    intro b hb
    rcases memc hb with rfl | hb
    · exact Nat.le_refl _
    · obtain ⟨⟨x, o'⟩, hx, e⟩ := List.mem_filterMap.mp hb
      simp only at e; subst e
      have := scopeVs_ge hx
      lia
  have fresh : ∀ b, s.heap.objs.size ≤ b → s.heap.get? b = none := fun b hb => by
    cases e : s.heap.get? b with
    | none => rfl
    | some o' => exact absurd (Heap.lt_size e) (Nat.not_lt.mpr hb)
  refine codeAny_call_cells rm.room (Ks _ _ ho) hdata (T.nolimit.keeps old) (codeRec_of Ks hcode) hbody (hbind vals hlen) hclo ?_ (fun s₁ IC => ?_) hco hgen hkf
  · intro x hx
    have : x.1 ∈ params := by
      have := List.mem_map_of_mem (f := (·.1)) hx
      rw [zl] at this; exact this
    rcases hpk _ this with h | h
    · exact .inl h
    · refine .inr ⟨h, ?_⟩
      have : ∃ b, (x.1, some b) ∈ scopeVs (s.heap.objs.size + 1) fd.scope.names := by
        have aux : ∀ (names : List (Str × NameKind)) (m : Nat), names.lookup x.1 = some .cell → ∃ b, (x.1, some b) ∈ scopeVs m names := by
          intro names
          induction names with
          | nil => intro m e; simp at e
          | cons q r ih =>
            intro m e
            obtain ⟨y, kk⟩ := q
            unfold scopeVs
            by_cases hy : x.1 = y
            · subst hy
              rw [lookup_hit] at e; cases e
              rw [if_neg (by decide), if_pos (by decide)]
              exact ⟨m, .head _⟩
            · rw [lookup_skip hy] at e
              split
              · obtain ⟨b, hb⟩ := ih m e; exact ⟨b, .tail _ hb⟩
              · split
                · obtain ⟨b, hb⟩ := ih (m + 1) e; exact ⟨b, .tail _ hb⟩
                · exact ih m e
        exact aux _ _ h
      obtain ⟨b, hb⟩ := this
      rw [cellsFrom_hit nd hb]; rfl
  · have c1 : Ext s.heap s₁.heap := IC.toInCall.keep
    obtain ⟨h', tk, e₁⟩ := IC.toInCall.same
    have ok : Ok (fnCx w h₀ X fd a s.heap.objs.size ds) := by
      refine ⟨B, hkf, hglob, hblt, fun x hx => scopeVs_loc nd hx, fun x b hx => ⟨.inl (scopeVs_cel nd hx), cellsFrom_hit nd hx⟩, scopeVs_nd nd, scopeVs_ndc, fun b hb => List.mem_append_left _ hb, fun b hb => ?_⟩
      rcases List.mem_append.mp hb with hb | hb
      · have := fresh b (own_ge b hb)
        cases e : h₀.get? b with
        | none => rfl
        | some o' => have := old _ _ e; rw [fresh b (own_ge b hb)] at this; cases this
      · exact nw b hb
    have rX : RepL (fnCx w h₀ X fd a s.heap.objs.size ds).X s.heap args vals := r.more fun b hb => by
      rcases List.mem_append.mp hb with hb | hb
      · exact .inr (fresh b (own_ge b hb))
      · exact .inl hb
    have rX' := rX.ext c1
    have dsAt : ∀ (i : Nat) x o' d', (scopeVs (s.heap.objs.size + 1) fd.scope.names)[i]? = some (x, o') → ds[i]? = some (some d') → (params.zip args).lookup x = some d' := by
      intro i x o' d' e1 e2
      rw [← hds] at e2
      unfold initDs at e2
      rw [scopeVs_map (fun y => (params.zip args).lookup y) fd.scope.names 0 (s.heap.objs.size + 1), List.getElem?_map, e1] at e2
      simpa using e2
    have st : St (fnCx w h₀ X fd a s.heap.objs.size ds) s₁ := by
      refine ⟨old.trans c1, fun b hb => ?_, ?_, ⟨_, IC.toInCall.ns, fun i x d' e1 e2 => ?_⟩, fun i x b e1 => ?_⟩
      · rcases List.mem_append.mp hb with hb | hb
        · rcases memc hb with rfl | hb
          · obtain ⟨o', _, _, g, _⟩ := IC.toInCall.ns; exact ⟨o', g⟩
          · obtain ⟨⟨x, o'⟩, hx, e⟩ := List.mem_filterMap.mp hb
            simp only at e; subst e
            obtain ⟨o', g, _⟩ := IC.cell x b (cellsFrom_hit nd hx)
            exact ⟨o', g⟩
        · obtain ⟨o', g⟩ := low b hb; exact ⟨o', c1 _ _ g⟩
      · show ds.length = (scopeVs (s.heap.objs.size + 1) fd.scope.names).length
        rw [← hds]
        unfold initDs
        rw [List.length_map]
        have := congrArg List.length (scopeVs_map (fun y => y) fd.scope.names 0 (s.heap.objs.size + 1))
        simpa using this
      · obtain ⟨v, m, r'⟩ := zip_mem rX' (dsAt i x _ d' e1 e2)
        exact ⟨v, bindL_get (by rw [zl]; exact ndp) m (scopeVs_loc nd (List.mem_of_getElem? e1)), r'⟩
      · refine ⟨_, IC.cell x b (cellsFrom_hit nd (List.mem_of_getElem? e1)), fun d' e2 => ?_⟩
        obtain ⟨v, m, r'⟩ := zip_mem rX' (dsAt i x _ d' e1 e2)
        exact ⟨v, bindC_get (by rw [zl]; exact ndp) m (scopeVs_cel nd (List.mem_of_getElem? e1)), r'⟩
    refine run X _ s₁ s.heap.objs.size _ _ ok rm.deeper st fun v s' p r' => ?_
    refine k v s' ?_ r'
    have p0 : Pure s s₁ := by rw [e₁]; exact .heap (by rw [e₁] at c1; exact c1.toX)
    refine ⟨fun b o' _ g => p.ext b o' (fun q => ?_) (c1 _ _ g), p.os.trans p0.os, fun h => p.bare (p0.bare h), fun g st' n e => p.gen g st' n (p0.gen g st' n e), Nat.le_trans p0.gsize p.gsize⟩
    have := own_ge b (Cx.wr_own q)
    rw [fresh b this] at g; cases g
end Mine
end
section
open PySem PySem.W PyProof.Rows
set_option Elab.async false
set_option linter.unusedVariables false
namespace Mine

noncomputable abbrev Cx.lay (c : Cx) (io : List Addr) : Cx := { c with X := io ++ c.X }

theorem Ok.lay {c : Cx} (k : Ok c) {io : List Addr} (h : ∀ a ∈ io, c.h₀.get? a = none) : Ok (c.lay io) :=
  ⟨k.base, k.kind, k.glob, k.blt, k.loc, k.cel, k.nd, k.ndc, fun a m => List.mem_append_right _ (k.own a m), fun a m => (List.mem_append.mp m).elim (h a) (k.new a)⟩
/-- addresses that come in use, written by a loop's machinery -/
theorem St.enter {c : Cx} {io : List Addr} {s s' : Shared} (st : St c s) (p : Pure s s') (h : ∀ a ∈ io, s.heap.get? a = none) (hl : Low io s'.heap) : St (c.lay io) s' := by
  have st' := st.pure p
  have k : ∀ {d v}, Rep c.X s.heap d v → Rep (io ++ c.X) s'.heap d v := fun r => (r.more fun b hb => (List.mem_append.mp hb).elim (fun m => .inr (h b m)) .inl).ext p.pure
  refine ⟨st'.old, fun a m => (List.mem_append.mp m).elim (hl a) (st'.low a), st.len, ?_, ?_⟩
  · obtain ⟨m, hn, hm⟩ := st.ns
    exact ⟨m, hn.keeps p.pure, fun i x d e1 e2 => let ⟨v, a, b⟩ := hm i x d e1 e2; ⟨v, a, k b⟩⟩
  · intro i x a e
    obtain ⟨ov, ⟨o, ho, hd⟩, hv⟩ := st.cells i x a e
    exact ⟨ov, ⟨o, p.pure _ _ ho, hd⟩, fun d e => let ⟨v, a, b⟩ := hv d e; ⟨v, a, k b⟩⟩
theorem St.leave {c : Cx} {io : List Addr} {gs} {s s' : Shared} (ok : Ok c) (st : St (c.lay io) s) (p : Step io gs s s') (h : ∀ a ∈ io, a ∉ c.X) (h0 : ∀ a ∈ io, c.h₀.get? a = none) : St c s' := by
  have k : ∀ {d v}, Rep (io ++ c.X) s.heap d v → Rep c.X s'.heap d v := fun r => (r.extX (p.ext.mono fun a m => List.mem_append_left _ m)).less fun a m => List.mem_append_right _ m
  have ho : ∀ a ∈ c.own, a ∉ io := fun a m q => h a q (ok.own a m)
  refine ⟨fun b o e => p.ext b o (fun q => by rw [h0 b q] at e; cases e) (st.old b o e), fun a m => ?_, st.len, ?_, ?_⟩
  · obtain ⟨o, e⟩ := st.low a (List.mem_append_right _ m)
    exact ⟨o, p.ext _ _ (fun q => h a q m) e⟩
  · obtain ⟨m, hn, hm⟩ := st.ns
    exact ⟨m, hn.at' fun o e => p.ext _ o (ho _ (.head _)) e, fun i x d e1 e2 => let ⟨v, a, b⟩ := hm i x d e1 e2; ⟨v, a, k b⟩⟩
  · intro i x a e
    obtain ⟨ov, ⟨o, hg, hd⟩, hv⟩ := st.cells i x a e
    have ma : a ∈ c.own := .tail _ (List.mem_filterMap.mpr ⟨_, List.mem_of_getElem? e, rfl⟩)
    exact ⟨ov, ⟨o, p.ext _ _ (ho _ ma) hg, hd⟩, fun d e => let ⟨v, a, b⟩ := hv d e; ⟨v, a, k b⟩⟩

/-- the loop's machinery takes a step, and may grow -/
theorem St.grow {c : Cx} {io io' : List Addr} {gs} {s s' : Shared} (ok : Ok c) (st : St (c.lay io) s) (p : Step io gs s s') (ioX : ∀ a ∈ io, a ∉ c.X) (h0 : ∀ a ∈ io, c.h₀.get? a = none)
    (hn : ∀ a ∈ io', a ∈ io ∨ s.heap.get? a = none) (hs : ∀ a ∈ io, a ∈ io') (hl : Low io' s'.heap) : St (c.lay io') s' := by
  have k : ∀ {d v}, Rep (io ++ c.X) s.heap d v → Rep (io' ++ c.X) s'.heap d v := fun r => (r.more fun b hb => (List.mem_append.mp hb).elim (fun m => (hn b m).elim (fun m => .inl (List.mem_append_left _ m)) .inr) fun m => .inl (List.mem_append_right _ m)).extX
    (p.ext.mono fun a m => List.mem_append_left _ (hs a m))
  have st' : St (c.lay io) s' := st.step p (fun a m => List.mem_append_left _ m) (fun a m q => ioX a q (ok.own a m)) (fun a o e m => by have e' : c.h₀.get? a = some o := e; rw [h0 a m] at e'; cases e') fun a m => hl a (hs a m)
  refine ⟨st'.old, fun a m => (List.mem_append.mp m).elim (hl a) fun m => st'.low a (List.mem_append_right _ m), st.len, ?_, ?_⟩
  · obtain ⟨m, hn', hm⟩ := st.ns
    exact ⟨m, hn'.at' fun o e => p.ext _ o (fun q => ioX _ q (ok.own _ (.head _))) e, fun i x d e1 e2 => let ⟨v, a, b⟩ := hm i x d e1 e2; ⟨v, a, k b⟩⟩
  · intro i x a e
    obtain ⟨ov, ⟨o, hg, hd⟩, hv⟩ := st.cells i x a e
    have ma : a ∈ c.own := .tail _ (List.mem_filterMap.mpr ⟨_, List.mem_of_getElem? e, rfl⟩)
    exact ⟨ov, ⟨o, p.ext _ _ (fun q => ioX _ q (ok.own _ ma)) hg, hd⟩, fun d e => let ⟨v, a, b⟩ := hv d e; ⟨v, a, k b⟩⟩

/-- steps upon what was not there are none, seen from before -/
theorem Step.unseen {Y io : List Addr} {gs} {s₀ s s' : Shared} (p : Step Y [] s₀ s) (q : Step io gs s s') (h : ∀ a ∈ io, s₀.heap.get? a = none) (hg : ∀ g ∈ gs, s₀.gens[g]? = none) : Step Y [] s₀ s' :=
  ⟨fun b o n e => q.ext b o (fun m => by rw [h b m] at e; cases e) (p.ext b o n e), q.os.trans p.os, fun x => q.bare (p.bare x),
    fun g st n e => q.gen g st (fun m => by rw [hg g m] at e; cases e) (p.gen g st n e), Nat.le_trans p.gsize q.gsize⟩

section
variable {n : Nat} {c : Cx} {tg iter : Expr} {body rest : List Stmt} {pos : Pos} {A : Around} {s₀ : Shared} {Q : Flow → Shared → Prop} {E : Value → Shared → Prop}

/-- the context of a loop's turn -/
noncomputable abbrev Cx.turn (c : Cx) (io : List Addr) (ds : List (Option D)) : Cx := { c with X := io ++ c.X, ds := ds }

theorem sFor {w' : World} {env' : Env} (items : List D) (F : Nat → List (Option D)) (Z : List Addr) (P : Nat → Shared → Prop) (R : Value → Shared → Prop)
    (ok : Ok c) (rm : Rm n A) (hn : 4 ≤ n) (st : St c s₀) (hi : EvI n c iter tg items) (hF : F 0 = c.ds) (hZw : ∀ a ∈ c.wr, a ∈ Z) (hZ : ∀ a ∈ Z, a ∈ c.X)
    (hP0 : ∀ s, Pure s₀ s → P 0 s) (hP : ∀ io, (∀ a ∈ io, s₀.heap.get? a = none) → ∀ k s s' gs, P k s → Step io gs s s' → P k s')
    (turn : ∀ (io : List Addr) (k : Nat) (d : D) (A : Around) (s : Shared) (v : Value) (Q : Flow → Shared → Prop) (E : Value → Shared → Prop), items[k]? = some d → (∀ a ∈ io, s₀.heap.get? a = none) → Ok (c.turn io (F k)) → Rm n A → St (c.turn io (F k)) s → P k s →
      Step Z [] s₀ s → Rep (c.turn io (F k)).X s.heap d v →
      (∀ f s', (f = .next ∨ f = .cont) → Step Z [] s s' → St (c.turn io (F (k + 1))) s' → P (k + 1) s' → Q f s') →
      (∀ v s', Step Z [] s s' → R v s' → Q (.ret v) s') →
      wpAny (model prog w') A (assign tg env' v) (fun _ s₂ => wpAny (model prog w') A (execs body env') Q E s₂) E s)
    (kR : ∀ v s', Step Z [] s₀ s' → R v s' → Q (.ret v) s')
    (k : ∀ s', Step Z [] s₀ s' → St (c.wd (F items.length)) s' → P items.length s' → wpAny (model prog w') A (execs rest env') Q E s')
    (hs : ∀ x, foldedSetIterable iter c.env x = pure x := by intro _; rfl) (he' : env' = c.env := by rfl) (hw' : w' = c.w := by rfl) :
    wpAny (model prog w') A (execs (.For tg iter body [] pos :: rest) env') Q E s₀ := by
  subst he' hw'
  refine wpAny_execs_cons (wpAny_For (hi ok A s₀ _ _ rm st fun it io gs J s₁ ik p₁ hio hgs hJ => ?_) hs)
  have hl1 := ik.there hJ
  have old0 : ∀ a, s₀.heap.get? a = none → a ∉ c.X := fun a e m => by obtain ⟨o, e'⟩ := st.low a m; rw [e] at e'; cases e'
  have new0 : ∀ a, s₀.heap.get? a = none → c.h₀.get? a = none := fun a e => by
    cases e' : c.h₀.get? a with
    | none => rfl
    | some o => have := st.old _ _ e'; rw [e] at this; cases this
  have okT : ∀ io ds, (∀ a ∈ io, s₀.heap.get? a = none) → Ok (c.turn io ds) := fun io ds h => (ok.wd ds).lay fun a m => new0 a (h a m)
  have st1 : St (c.turn io (F 0)) s₁ := by
    have : c.turn io (F 0) = c.lay io := by rw [hF]
    rw [this]
    exact st.enter p₁ hio hl1
  refine codeAny_forLoop_any (fun m s => ∃ j io, m = items.length + 1 - j ∧ j ≤ items.length ∧ (∀ a ∈ io, s₀.heap.get? a = none) ∧ St (c.turn io (F j)) s ∧ J io (io ++ c.X) (items.drop j) s ∧ P j s ∧ Step Z [] s₀ s) ?_ (items.length + 1)
    ⟨0, io, by lia, Nat.zero_le _, hio, st1, hJ, hP0 _ p₁, Step.up p₁⟩
  clear st1 hl1 hJ hio p₁ s₁ io
  rintro m s ⟨j, io, rfl, hj, hio, stj, hJj, hPj, hst⟩
  have ioX : ∀ a ∈ io, a ∉ c.X := fun a m => old0 a (hio a m)
  have ioH : ∀ a ∈ io, c.h₀.get? a = none := fun a m => new0 a (hio a m)
  have key : NextW c.w A tg it (fun r s₁ => match r with
      | none => wpAny c.M A (execs [] c.env) (fun f s₃ => (match (Except.ok f : Result) with | .ok f => (match f with | .next => wpAny c.M A (execs rest c.env) Q E s₃ | f => Q f s₃) | .error e => cameBackBy c.M A c.env E e s₃)) (notedBy c.M A c.env fun e s' => cameBackBy c.M A c.env E e s') s₁
      | some v => wpAny c.M A (assign tg c.env v) (fun _ s₂ => wpAny c.M A (execs body c.env) (fun f s₃ => match f with
          | .next | .cont => ∃ m', m' < items.length + 1 - j ∧ ∃ j io, m' = items.length + 1 - j ∧ j ≤ items.length ∧ (∀ a ∈ io, s₀.heap.get? a = none) ∧ St (c.turn io (F j)) s₃ ∧ J io (io ++ c.X) (items.drop j) s₃ ∧ P j s₃ ∧ Step Z [] s₀ s₃
          | .brk => wpAny c.M A (execs rest c.env) Q E s₃
          | .ret v => Q (.ret v) s₃) (notedBy c.M A c.env fun e s' => cameBackBy c.M A c.env E e s') s₂) (notedBy c.M A c.env fun e s' => cameBackBy c.M A c.env E e s') s₁) (notedBy c.M A c.env fun e s' => cameBackBy c.M A c.env E e s') s := by
    rcases Nat.lt_or_ge j items.length with hlt | hge
    · have hd : items.drop j = items[j] :: items.drop (j + 1) := List.drop_eq_getElem_cons hlt
      rw [hd] at hJj
      refine ik.next hJj (rm.less (by lia)) stj.old stj.low (fun a m => List.mem_append_left _ m) fun v s' io' p hn' hs' r hJ' => ?_
      have hio' : ∀ a ∈ io', s₀.heap.get? a = none := fun a m => (hn' a m).elim (hio a) fun e => by
        cases e' : s₀.heap.get? a with
        | none => rfl
        | some o =>
          by_cases hz : a ∈ Z
          · obtain ⟨o', g⟩ := stj.low a (List.mem_append_right _ (hZ a hz)); rw [e] at g; cases g
          · have := hst.ext a o hz e'; rw [e] at this; cases this
      have st' : St (c.turn io' (F j)) s' := St.grow (c := c.wd (F j)) (ok.wd _) stj p ioX ioH hn' hs' (ik.there hJ')
      have step' := hst.unseen p hio hgs
      have xsub : ∀ a ∈ io' ++ c.X, a ∈ io' ++ (io ++ c.X) := fun a m => (List.mem_append.mp m).elim (fun m => List.mem_append_left _ m) fun m => List.mem_append_right _ (List.mem_append_right _ m)
      refine turn io' j _ A s' v _ _ (List.getElem?_eq_getElem hlt) hio' (okT _ _ hio') rm st' (hP io hio j _ _ gs hPj p) step' (r.less xsub) (fun f s'' hf p' st'' hP'' => ?_) fun v s'' p' hr => kR v s'' (step'.trans p') hr
      have goal : ∃ m', m' < items.length + 1 - j ∧ ∃ j io, m' = items.length + 1 - j ∧ j ≤ items.length ∧ (∀ a ∈ io, s₀.heap.get? a = none) ∧ St (c.turn io (F j)) s'' ∧ J io (io ++ c.X) (items.drop j) s'' ∧ P j s'' ∧ Step Z [] s₀ s'' :=
        ⟨items.length + 1 - (j + 1), by lia, j + 1, io', rfl, hlt, hio', st'', ik.keep (ik.more hJ' fun a m => .inl (xsub a m)) p' (fun a m => List.mem_append_right _ (hZ a m)) (fun a m q => old0 a (hio' a m) (hZ a q)) (by simp), hP'', step'.trans p'⟩
      rcases hf with rfl | rfl <;> exact goal
    · have hjl : j = items.length := Nat.le_antisymm hj hge
      subst hjl
      rw [List.drop_length] at hJj
      refine ik.done hJj (rm.less (by lia)) stj.old fun s' p => wpAny_execs_nil ?_
      have st' : St (c.wd (F items.length)) s' := St.leave (c := c.wd (F items.length)) (ok.wd _) stj p ioX ioH
      exact k s' (hst.unseen p hio hgs) st' (hP io hio _ _ _ gs hPj p)
  refine wpAny_mono key (fun r s₁ h => ?_) fun _ _ h => h
  cases r with
  | none => exact wpAny_mono h (fun f s₃ h => h) fun _ _ h => h
  | some v =>
    refine wpAny_mono h (fun _ s₂ h => wpAny_mono h (fun _ s₃ h => wpAny_mono h (fun f s₄ h => ?_) fun _ _ h => h) fun _ _ h => h) fun _ _ h => h
    cases f <;> exact h
end
end Mine
end
section
open PySem PySem.W PyProof.Rows
set_option Elab.async false
set_option linter.unusedVariables false
namespace Mine

section
variable {n : Nat} {c : Cx} {x fld : Str} {p pos apos : Pos} {d : D} {C : Addr}
theorem obj_at {X : List Addr} {h : Heap} {u : Value} (r : Rep X h (.obj C fld d) u) : ∃ a od ox v hsh tk nn, u = .ref a ∧ InstAt h a ox C (some od) ∧ od = dictOf [⟨hsh, .str fld tk, v⟩] nn ∧ Rep X h d v := by
  obtain ⟨a, dx, hsh, tk, nn, sl, u, rfl, n1, n2, g1, g2, y⟩ := r.obj_inv
  exact ⟨a, _, _, u, hsh, tk, nn, rfl, ⟨g1, rfl, rfl, g2⟩, rfl, y⟩
theorem lookIn_one {hsh : Int} {tk : Tok} {v : Value} {nn : Nat} : lookIn fld (dictOf [⟨hsh, .str fld tk, v⟩] nn) = some (some v) := by
  rw [lookIn_dict]
  unfold getL
  simp [Value.isStr]
theorem handed_rep {X : List Addr} {h : Heap} {v : Value} (r : Rep X h d v) : handedIn v = true := by
  cases d with
  | none => rw [r.none_inv]; rfl
  | bool b => rw [r.bool_inv]; rfl
  | int i => obtain ⟨t, rfl⟩ := r.int_inv; rfl
  | str l => obtain ⟨t, rfl⟩ := r.str_inv; rfl
  | tup ds => obtain ⟨a, vs, rfl, _⟩ := r.tup_inv; rfl
  | lst ds => obtain ⟨a, vs, rfl, _⟩ := r.lst_inv; rfl
  | ref a => rw [r.ref_inv]; rfl
  | obj C y d => obtain ⟨a, dx, hsh, tk, nn, sl, u, rfl, _⟩ := r.obj_inv; rfl
  | map f => obtain ⟨a, g, rfl, _⟩ := r.map_inv; rfl
/-- the one attribute of an instance -/
theorem Ev.field {attr : Option Value} (ho : Ev n c (.Name x p) (.obj C fld d)) (hg : ∀ w, plainGet (KF w) C fld = true) (hh : ∀ w, hasDictIn (KF w) C = true) (ha : ∀ w, findIn (KF w) (.ref C) fld = some attr) (hn : ∀ w, noGet (KF w) attr = true)
    (he : eval (.Attribute (.Name x p) fld pos) c.env = (do
      let o ← eval (.Name x p) c.env
      standAt pos.atName
      let r ← holding [o] (getAttr o fld true)
      letTemporaryGo (.Name x p) o r
      pure r) := by rfl) : Ev n c (.Attribute (.Name x p) fld pos) d := by
  intro ok A s Q E rm st k
  refine Attribute_Name_ (ho ok A s _ _ rm st fun v s₁ p₁ r₁ => ?_) he
  have st₁ := st.pure p₁
  obtain ⟨a, od, ox, u, hsh, tk, nn, rfl, I, rfl, r⟩ := obj_at r₁
  exact get_value (ok.base.K.keeps st₁.old) I (plainGet_of (hg _)).1 (findObj_own (hh _) (ha _) (hn _) lookIn_one) (handed_rep r) (k _ _ (p₁.trans .toks) r)

theorem arm_call_meth {o : Expr} {name : Str} {es : List Expr} {env : Env} : eval (.Call (.Attribute o name apos) es [] pos) env = (do
    let ov ← attributeBase o name env (eval o env)
    standAt apos.atName
    methodCall o name apos pos env ov (es.length + 0) (backTo pos (starEach es env)) []) := rfl
/-- a method of an own class, by continuation: the receiver, then the call -/
theorem callMeth {o : Expr} {name : Str} {es : List Expr} {ds : List D} {f : Addr} {A : Around} {s : Shared} {Q : Value → Shared → Prop} {E : Value → Shared → Prop}
    (ok : Ok c) (rm : Rm n A) (hb : attributeBase o name c.env (eval o c.env) = eval o c.env)
    (hfew : methodCallForm (es.length + 0) (backTo pos (starEach es c.env)) [] = true) (hline : (apos.endLine == pos.line) = true)
    (kp : ∀ w, keepIn (KF w) (.ref f) = true) (ha : Evs n c es ds)
    (ho : wpAny c.M A (eval o c.env) (fun v s₁ => St c s₁ ∧ ∃ x, v = .ref x ∧ ∃ ox od, InstAt s₁.heap x ox C od ∧ shadowIn od name = some false ∧ ∀ vs s₂, Pure s₁ s₂ → RepL c.X s₂.heap ds vs → wpAny c.M A (call (.ref f) (.ref x :: vs)) Q E s₂) E s)
    (hg : ∀ w, plainGet (KF w) C name = true) (hf : ∀ w, findIn (KF w) (.ref C) name = some (some (.ref f))) (ht : ∀ w, typeIn (KF w) (.ref f) = some (.type "function")) (hp : (starEach es c.env).any (·.1) = false := by rfl) :
    wpAny c.M A (eval (.Call (.Attribute o name apos) es [] pos) c.env) Q E s := by
  rw [arm_call_meth, hb]
  refine wpAny_bind (wpAny_mono ho (fun v s₁ h₁ => ?_) fun _ _ e => e)
  obtain ⟨st₁, x, rfl, ox, od, I, hsh, hk⟩ := h₁
  refine wpAny_bind (wpAny_standAt ?_)
  have hpos : methodCallPos true o c.env apos pos = pure pos := by unfold methodCallPos; simp [hline]
  unfold methodCall
  rw [hfew]
  have X := ok.base.K.keeps st₁.old
  refine wpAny_bind (wpAny_holding (method_fn X I (plainGet_of (hg _)).1 (plainGet_of (hg _)).2 (hf _) (ht _) hsh ?_))
  refine wpAny_bind (wpAny_of_eq hpos ?_)
  exact callW ok (Kp.fn ok kp) ha rm st₁ (fun vs s₂ p₂ r₂ => hk vs s₂ p₂ r₂) hp
theorem shadow_one {hsh : Int} {tk : Tok} {v : Value} {nn : Nat} {name : Str} (h : name ≠ fld) : shadowIn (some (dictOf [⟨hsh, .str fld tk, v⟩] nn)) name = some false := by
  show (lookIn name (dictOf [⟨hsh, .str fld tk, v⟩] nn)).map _ = _
  rw [lookIn_dict]
  unfold getL
  have : ([⟨hsh, .str fld tk, v⟩] : List DictEntry).find? (·.key.isStr name) = none := by
    simp [Value.isStr]
    exact fun e => h e.symm
  rw [this]
  rfl
theorem Ev.methI {o : Expr} {name : Str} {es : List Expr} {ds : List D} {f : Addr} {d₀ : D} (ho : Ev n c o (.obj C fld d₀)) (ha : Evs n c es ds) (hF : Fn n c.w c.h₀ (.ref f) (.obj C fld d₀ :: ds) d)
    (hb : attributeBase o name c.env (eval o c.env) = eval o c.env) (hfew : methodCallForm (es.length + 0) (backTo pos (starEach es c.env)) [] = true) (hline : (apos.endLine == pos.line) = true) (kp : ∀ w, keepIn (KF w) (.ref f) = true)
    (hg : ∀ w, plainGet (KF w) C name = true) (hf : ∀ w, findIn (KF w) (.ref C) name = some (some (.ref f))) (ht : ∀ w, typeIn (KF w) (.ref f) = some (.type "function")) (hne : name ≠ fld) (hp : (starEach es c.env).any (·.1) = false := by rfl) :
    Ev n c (.Call (.Attribute o name apos) es [] pos) d := by
  intro ok A s Q E rm st k
  refine callMeth (C := C) ok rm hb hfew hline kp ha (ho ok A s _ _ rm st fun v s₁ p₁ r₁ => ?_) hg hf ht hp
  obtain ⟨a, od, ox, u, hsh, tk, nn, rfl, I, rfl, r⟩ := obj_at r₁
  refine ⟨st.pure p₁, a, rfl, ox, _, I, shadow_one hne, fun vs s₂ p₂ r₂ => ?_⟩
  have st₂ := (st.pure p₁).pure p₂
  exact hF c.X A s₂ _ _ _ rm st₂.old st₂.low ok.new (.cons (r₁.ext p₂.pure) r₂) fun v s₃ p₃ r₃ => k v s₃ ((p₁.trans p₂).trans p₃) r₃
end
end Mine
end
section
open PySem PySem.W PyProof.Rows
set_option Elab.async false
set_option linter.unusedVariables false
namespace Mine
section
variable {n : Nat} {c : Cx} {e tg : Expr} {p pos : Pos} {es : List Expr} {x : Str} {d : D}
theorem EvI.range {k : Nat} (h : Ev n c e (.int k)) (hk' : k ≤ 1000000) (hk : c.env.kindOf "range" = some .globalImplicit := by rfl) (he : ∀ w, nsIn (KF w) mainGlobals "range" = some none := by intro _; rfl) (hp : (starEach [e] c.env).any (·.1) = false := by rfl)
    (hs1 : starEach [e] c.env = (false, eval e c.env) :: starEach [] c.env := by rfl) :
    EvI n c (.Call (.Name "range" p) [e] [] pos) tg ((List.range k).map fun (j : Nat) => D.int j) := by
  intro ok A s Q E rm st kk
  refine wpAny_Call_ofName (builtinName ok st Boot.range ?_ hk he)
  refine callW ok Kp.type (Evs.cons h .nil hs1) rm st (fun vs s₁ p₁ r₁ => ?_) hp
  rw [RepL.cons_iff] at r₁; obtain ⟨v, r', rfl, a, b⟩ := r₁
  rw [RepL.nil_iff] at b; subst b
  obtain ⟨t, rfl⟩ := a.int_inv
  refine call_range_1 ?_
  have fr := get_size s₁.heap
  have sm : Builtin.Range.small 0 (k : Int) 1 = true := by unfold Builtin.Range.small Builtin.Range.rangeSize Builtin.Range.rangeFitsLong; simp; lia
  have sz : Builtin.Range.rangeSize 0 (k : Int) 1 = ((k : Nat) : Int) := by unfold Builtin.Range.rangeSize; simp; try lia
  have pp : Pure s₁ { s₁ with heap := s₁.heap.push { cls := .type "range", data := .fields #[.int 0 s₁.toks, .int (k : Int) t, .int 1 (s₁.toks + 1)] }, toks := s₁.toks + 1 + 1 } := .heap fun b o _ g => Heap.get?_push_of_some _ g
  refine wpAny_pyIter_range (a := 0) (b := (k : Int)) (c := 1) (t := s₁.toks) (u := t) (v := s₁.toks + 1) (Heap.get?_push_size _ rfl) sm ?_
  rw [sz]
  have pp2 := fun tk => pp.trans (Step.push (s := { s₁ with heap := s₁.heap.push { cls := .type "range", data := .fields #[.int 0 s₁.toks, .int (k : Int) t, .int 1 (s₁.toks + 1)] }, toks := s₁.toks + 1 + 1 }) (o := { cls := .type "range_iterator", data := .fields #[rawInt 0, rawInt ((k : Nat) : Int), rawInt 1] }) (tk := tk))
  refine kk _ [_] [] _ _ (ItF.range c.w c.h₀ A tg _).up (p₁.trans (pp2 _)) ?_ (by simp) ⟨rfl, 0, k, Heap.get?_push_size _ rfl, ?_⟩
  · intro b hb
    obtain rfl := mem1 hb
    exact none_of_ext (p₁.trans pp) (get_size (s₁.heap.push _))
  · apply List.map_congr_left
    intro a _
    simp
theorem EvI.enum {ds : List D} {tes : List Expr} {tk : Nat} {tp : Pos} (h : Ev n c e (.lst ds)) (hk : c.env.kindOf "enumerate" = some .globalImplicit := by rfl) (he : ∀ w, nsIn (KF w) mainGlobals "enumerate" = some none := by intro _; rfl) (hp : (starEach [e] c.env).any (·.1) = false := by rfl)
    (hs1 : starEach [e] c.env = (false, eval e c.env) :: starEach [] c.env := by rfl) :
    EvI n c (.Call (.Name "enumerate" p) [e] [] pos) (.Tuple tes tk tp) (enumD 0 ds) := by
  intro ok A s Q E rm st kk
  refine wpAny_Call_ofName (builtinName ok st Boot.enumerate ?_ hk he)
  refine callW ok Kp.type (Evs.cons h .nil hs1) rm st (fun vs s₁ p₁ r₁ => ?_) hp
  rw [RepL.cons_iff] at r₁; obtain ⟨v, r', rfl, a, b⟩ := r₁
  rw [RepL.nil_iff] at b; subst b
  obtain ⟨l, vs, rfl, na, ia, ra⟩ := a.lst_inv
  refine call_enumerate_list ia fun h' he1 he2 hz hk' => ?_
  have fr := get_size s₁.heap
  have fr' : s₁.heap.get? (s₁.heap.objs.size + 1) = none := by
    cases e : s₁.heap.get? (s₁.heap.objs.size + 1) with
    | none => rfl
    | some o => exact absurd (Heap.lt_size e) (Nat.not_lt.mpr (Nat.le_succ _))
  refine wpAny_pyIter_enum he1 ?_
  have pp : Pure s₁ { s₁ with heap := h' } := .heap fun b o _ g => hk' b o g
  have hb : ∀ b, b = s₁.heap.objs.size + 1 ∨ b = s₁.heap.objs.size → s₁.heap.get? b = none := by
    rintro b (rfl | rfl)
    · exact fr'
    · exact fr
  have hne : ∀ b, b = s₁.heap.objs.size + 1 ∨ b = s₁.heap.objs.size → l ≠ b := by
    rintro b q rfl
    obtain ⟨o, e, _⟩ := ia
    rw [hb _ q] at e; cases e
  refine kk _ [s₁.heap.objs.size + 1, s₁.heap.objs.size] [] _ _ (ItF.enum c.w c.h₀ A _ _ (Nat.succ_ne_self _)).up (p₁.trans pp) (fun b hb' => none_of_ext p₁ (hb b (by simpa using hb'))) (by simp) ?_
  refine ⟨rfl, l, 0, vs, ds, _, he1, he2, ia.at fun o e => hk' _ o e, ?_, hne _ (.inr rfl), hne _ (.inl rfl), ?_, rfl⟩
  · intro q
    rcases List.mem_append.mp q with q | q
    · exact hne l (by simpa using q) rfl
    · exact na q
  · refine (ra.more (Y := [s₁.heap.objs.size + 1, s₁.heap.objs.size] ++ c.X) fun b hb' => ?_).ext pp.pure
    rcases List.mem_append.mp hb' with q | q
    · exact .inr (hb b (by simpa using q))
    · exact .inl q
end
end Mine
end
section
open PySem PySem.W PyProof.Rows
set_option Elab.async false
set_option linter.unusedVariables false
namespace Mine

/-- a comprehension's tests -/
noncomputable def testsM (ifs : List Expr) (env : Env) : Sem Bool := forIn ifs true fun c r => if r = true then do let ok ← isTrue c env (eval c env); pure (ForInStep.yield ok) else pure (ForInStep.yield r)
noncomputable def Tvs (n : Nat) (c : Cx) (ifs : List Expr) (b : Bool) : Prop :=
  Ok c → ∀ (A : Around) (s : Shared) (Q : Bool → Shared → Prop) (E : Value → Shared → Prop), Rm n A → St c s →
    (∀ s', Pure s s' → Q b s') → wpAny c.M A (testsM ifs c.env) Q E s
theorem Tvs.nil {n c} : Tvs n c [] true := fun _ A s Q E _ _ h => wpAny_tests_nil (h s (.refl _ _ _))
theorem Tvs.one {n c t b} (h : Tv n c t b) : Tvs n c [t] b := fun ok A s Q E rm st k => wpAny_tests_one (h ok A s _ _ rm st k)

noncomputable def turnOf (e : Expr) (depth : Nat) (tg : Expr) (ip : Pos) (ifs : List Expr) (emit : Sem Fin) (it acc : Value) (env : Env) : Sem Fin := do
  standAt ip
  match ← pyNext it with
  | none => pure (.done .next)
  | some v =>
    letOwnedTupleGo tg it v
    assign tg env v
    let ok ← testsM ifs env
    if ok then emit else again (.compLoop e depth it acc env)

noncomputable def emit1 (elt : Expr) (acc : Value) (env : Env) (c : Code) : Sem Fin := (eval elt env >>= fun x => call (.builtin "list.append") [acc, x] >>= fun _ => pure ()) >>= fun _ => again c
noncomputable def emit2 (e iter : Expr) (acc : Value) (env : Env) (c : Code) : Sem Fin := do
  let x ← eval iter env
  standAt iter.pos
  let x ← foldedSetIterable iter env x
  let it ← holding [x] (pyIter x)
  let _ ← runOwn (.compStart e 1 it acc env) env
  again c
theorem turn_1 (elt target iter : Expr) (ifs : List Expr) (scope : Scope) (pos : Pos) (it acc : Value) (env : Env) :
    compTurn (.ListComp elt [⟨target, iter, ifs, 0⟩] scope pos) 0 it acc env = turnOf (.ListComp elt [⟨target, iter, ifs, 0⟩] scope pos) 0 target iter.pos ifs (emit1 elt acc env (.compLoop (.ListComp elt [⟨target, iter, ifs, 0⟩] scope pos) 0 it acc env)) it acc env := by rfl
theorem turn_20 (elt target iter target2 iter2 : Expr) (ifs ifs2 : List Expr) (scope : Scope) (pos : Pos) (it acc : Value) (env : Env) :
    compTurn (.ListComp elt [⟨target, iter, ifs, 0⟩, ⟨target2, iter2, ifs2, 0⟩] scope pos) 0 it acc env = turnOf (.ListComp elt [⟨target, iter, ifs, 0⟩, ⟨target2, iter2, ifs2, 0⟩] scope pos) 0 target iter.pos ifs (emit2 (.ListComp elt [⟨target, iter, ifs, 0⟩, ⟨target2, iter2, ifs2, 0⟩] scope pos) iter2 acc env (.compLoop (.ListComp elt [⟨target, iter, ifs, 0⟩, ⟨target2, iter2, ifs2, 0⟩] scope pos) 0 it acc env)) it acc env := by rfl
theorem turn_21 (elt target iter target2 iter2 : Expr) (ifs ifs2 : List Expr) (scope : Scope) (pos : Pos) (it acc : Value) (env : Env) :
    compTurn (.ListComp elt [⟨target, iter, ifs, 0⟩, ⟨target2, iter2, ifs2, 0⟩] scope pos) 1 it acc env = turnOf (.ListComp elt [⟨target, iter, ifs, 0⟩, ⟨target2, iter2, ifs2, 0⟩] scope pos) 1 target2 iter2.pos ifs2 (emit1 elt acc env (.compLoop (.ListComp elt [⟨target, iter, ifs, 0⟩, ⟨target2, iter2, ifs2, 0⟩] scope pos) 1 it acc env)) it acc env := by rfl

/-- a loop's own objects: out of the frame's reach, and not there at sr -/
noncomputable def Out (c : Cx) (sr : Shared) (io : List Addr) : Prop := ∀ a ∈ io, a ∉ c.X ∧ c.h₀.get? a = none ∧ sr.heap.get? a = none

theorem comp_loop {c : Cx} {elt : Expr} {gens : List Comprehension} {scope : Scope} {pos : Pos} {depth : Nat} {tg : Expr} {ip : Pos} {ifs : List Expr} {it acc : Value} {emit : Sem Fin} {io : List Addr} {gs : List Nat} {J : List Addr → List Addr → List D → Shared → Prop} {n : Nat} {A : Around} {s₀ : Shared} {R : Result → Shared → Prop}
    (heq : compTurn (.ListComp elt gens scope pos) depth it acc c.env = turnOf (.ListComp elt gens scope pos) depth tg ip ifs emit it acc c.env)
    (ik : ItK c.w c.h₀ A tg gs it J) (items : List D) (sr : Shared) (P : List Addr → Nat → Shared → Prop) (Z : List Addr)
    (ok : Ok c) (rm : Rm n A) (hn : 4 ≤ n) (st : St (c.lay io) s₀) (hJ : J io (io ++ c.X) items s₀) (hio : Out c sr io) (hZ : ∀ a ∈ Z, a ∈ c.X) (hsr : ∀ a, s₀.heap.get? a = none → sr.heap.get? a = none)
    (hP0 : P io 0 s₀) (hP : ∀ io io' k s s', Out c sr io → P io k s → Step io gs s s' → (∀ a ∈ io', a ∈ io ∨ s.heap.get? a = none) → (∀ a ∈ io, a ∈ io') → P io' k s')
    (turn : ∀ (io : List Addr) (k : Nat) (d : D) (s : Shared) (v : Value) (Kb : Shared → Prop) (E : Value → Shared → Prop), items[k]? = some d → Out c sr io → Ok (c.lay io) → St (c.lay io) s → P io k s → Step (Z ++ io) gs s₀ s → Rep (io ++ c.X) s.heap d v → (∀ a, s.heap.get? a = none → sr.heap.get? a = none) →
      (∀ s', St (c.lay io) s' → Step Z [] s s' → P io (k + 1) s' → Kb s') →
      wpAny c.M A (assign tg c.env v) (fun _ s₂ => wpAny c.M A (testsM ifs c.env) (fun ok s₃ => if ok = true then wpAny c.M A emit (fun fin s₄ => fin = .again (.compLoop (.ListComp elt gens scope pos) depth it acc c.env) ∧ Kb s₄) E s₃ else Kb s₃) E s₂) E s)
    (hR : ∀ io s', Out c sr io → St c s' → P io items.length s' → Step (Z ++ io) gs s₀ s' → R (.ok .next) s') :
    codeAny c.M A (.compLoop (.ListComp elt gens scope pos) depth it acc c.env) R s₀ := by
  have okL : ∀ io, Out c sr io → Ok (c.lay io) := fun io h => ok.lay fun a m => (h a m).2.1
  have pres : ∀ {Y gs'} {s s' : Shared}, Step Y gs' s s' → Low Y s'.heap → (∀ a, s.heap.get? a = none → sr.heap.get? a = none) → ∀ a, s'.heap.get? a = none → sr.heap.get? a = none := fun {Y gs' s s'} p hl h a e => by
    by_cases hy : a ∈ Y
    · obtain ⟨o, g⟩ := hl a hy; rw [e] at g; cases g
    · cases e' : s.heap.get? a with
      | none => exact h a e'
      | some o => have := p.ext a o hy e'; rw [e] at this; cases this
  refine codeAny_loop rfl (fun m s => ∃ j io, m = items.length + 1 - j ∧ j ≤ items.length ∧ Out c sr io ∧ St (c.lay io) s ∧ J io (io ++ c.X) (items.drop j) s ∧ P io j s ∧ Step (Z ++ io) gs s₀ s ∧ (∀ a, s.heap.get? a = none → sr.heap.get? a = none)) ?_ (items.length + 1)
    ⟨0, io, by lia, Nat.zero_le _, hio, st, hJ, hP0, .refl _ _ _, hsr⟩
  clear hJ st hP0 hio io
  rintro m s ⟨j, io, rfl, hj, hio, stj, hJj, hPj, hst, hsr'⟩
  have ioX : ∀ a ∈ io, a ∉ c.X := fun a m => (hio a m).1
  have ioH : ∀ a ∈ io, c.h₀.get? a = none := fun a m => (hio a m).2.1
  show wpAny _ A ((compTurn (.ListComp elt gens scope pos) depth it acc c.env).onRaise (fun x => do noteFrame x c.env; theTreesLotGoes x)) _ _ s
  refine wpAny_noted ?_
  rw [heq]
  unfold turnOf
  refine wpAny_bind (wpAny_standAt (wpAny_bind ?_))
  rcases Nat.lt_or_ge j items.length with hlt | hge
  · have hd : items.drop j = items[j] :: items.drop (j + 1) := List.drop_eq_getElem_cons hlt
    rw [hd] at hJj
    have key : NextW c.w A tg it (fun r s₁ => match r with
        | none => False
        | some v => wpAny c.M A (do
            assign tg c.env v
            let ok ← testsM ifs c.env
            if ok then emit else again (.compLoop (.ListComp elt gens scope pos) depth it acc c.env)) (fun fin s' => match fin with | .done f => R (.ok f) s' | .again c' => c' = .compLoop (.ListComp elt gens scope pos) depth it acc c.env ∧ ∃ m, m < items.length + 1 - j ∧ ∃ j io, m = items.length + 1 - j ∧ j ≤ items.length ∧ Out c sr io ∧ St (c.lay io) s' ∧ J io (io ++ c.X) (items.drop j) s' ∧ P io j s' ∧ Step (Z ++ io) gs s₀ s' ∧ (∀ a, s'.heap.get? a = none → sr.heap.get? a = none)) (notedBy c.M A c.env fun e s' => R (.error e) s') s₁) (notedBy c.M A c.env fun e s' => R (.error e) s') s := by
      refine ik.next hJj (rm.less (by lia)) stj.old stj.low (fun a m => List.mem_append_left _ m) fun v s' io' p hn' hs' r hJ' => ?_
      have new0 : ∀ a, s.heap.get? a = none → c.h₀.get? a = none := fun a e => by
        cases e' : c.h₀.get? a with
        | none => rfl
        | some o => have := stj.old _ _ e'; rw [e] at this; cases this
      have hio' : Out c sr io' := fun a m => (hn' a m).elim (hio a) fun e => ⟨fun q => (by obtain ⟨o, g⟩ := stj.low a (List.mem_append_right _ q); rw [e] at g; cases g), new0 a e, hsr' a e⟩
      have low' := ik.there hJ'
      have st' : St (c.lay io') s' := St.grow ok stj p ioX ioH hn' hs' low'
      have step' : Step (Z ++ io') gs s₀ s' := (hst.mono (fun a m => (List.mem_append.mp m).elim (fun m => List.mem_append_left _ m) fun m => List.mem_append_right _ (hs' a m)) fun _ h => h).trans (p.mono (fun a m => List.mem_append_right _ (hs' a m)) fun _ h => h)
      have pr' := pres p (fun a m => low' a (hs' a m)) hsr'
      have xsub : ∀ a ∈ io' ++ c.X, a ∈ io' ++ (io ++ c.X) := fun a m => (List.mem_append.mp m).elim (fun m => List.mem_append_left _ m) fun m => List.mem_append_right _ (List.mem_append_right _ m)
      have kb : ∀ s'', St (c.lay io') s'' → Step Z [] s' s'' → P io' (j + 1) s'' → (∃ m, m < items.length + 1 - j ∧ ∃ j io, m = items.length + 1 - j ∧ j ≤ items.length ∧ Out c sr io ∧ St (c.lay io) s'' ∧ J io (io ++ c.X) (items.drop j) s'' ∧ P io j s'' ∧ Step (Z ++ io) gs s₀ s'' ∧ (∀ a, s''.heap.get? a = none → sr.heap.get? a = none)) := fun s'' st'' p' hP'' =>
        ⟨items.length + 1 - (j + 1), by lia, j + 1, io', rfl, hlt, hio', st'', ik.keep (ik.more hJ' fun a m => .inl (xsub a m)) p' (fun a m => List.mem_append_right _ (hZ a m)) (fun a m q => (hio' a m).1 (hZ a q)) (by simp), hP'', step'.trans (p'.mono (fun a m => List.mem_append_left _ m) (by simp)),
          pres p' (fun a m => st''.low a (List.mem_append_right _ (hZ a m))) pr'⟩
      refine wpAny_bind (wpAny_mono (turn io' j _ s' v _ _ (List.getElem?_eq_getElem hlt) hio' (okL _ hio') st' (hP io io' _ _ _ hio hPj p hn' hs') step' (r.less xsub) pr' kb) (fun _ s₂ h₂ => wpAny_bind (wpAny_mono h₂ (fun ok s₃ h₃ => ?_) fun _ _ h => h)) fun _ _ h => h)
      cases ok with
      | false => exact wpAny_pure ⟨rfl, h₃⟩
      | true => exact wpAny_mono h₃ (fun fin s₄ h₄ => by obtain ⟨rfl, h₄⟩ := h₄; exact ⟨rfl, h₄⟩) fun _ _ h => h
    refine wpAny_mono key (fun r s₁ h => ?_) fun _ _ h => h
    cases r with
    | none => exact h.elim
    | some v => exact wpAny_bind h
  · have hjl : j = items.length := Nat.le_antisymm hj hge
    subst hjl
    rw [List.drop_length] at hJj
    have key : NextW c.w A tg it (fun r s₁ => match r with
        | none => R (.ok .next) s₁
        | some v => False) (notedBy c.M A c.env fun e s' => R (.error e) s') s :=
      ik.done hJj (rm.less (by lia)) stj.old fun s' p => hR io s' hio (St.leave ok stj p ioX ioH) (hP io io _ _ _ hio hPj p (fun a m => .inl m) (fun a m => m)) (hst.trans (p.mono (fun a m => List.mem_append_right _ m) fun _ h => h))
    refine wpAny_mono key (fun r s₁ h => ?_) fun _ _ h => h
    cases r with
    | none => exact wpAny_pure h
    | some v => exact wpAny_bind (wpAny_mono h (fun _ _ f => f.elim) fun _ _ h => h)
end Mine
end
section
open PySem PySem.W PyProof.Rows
set_option Elab.async false
set_option linter.unusedVariables false
namespace Mine

theorem wpAny_newEnvComp {M : Model} {A : Around} {E : Value → Shared → Prop} {s : Shared} {scope : Scope} {globals : Addr} {closure : List (Str × Addr)} {qual : Str} {code : Value} {outer : Env} {builtins : Addr} {Q : Env → Shared → Prop}
    (hQ : Q (newEnv scope s.heap.objs.size globals (cellsFrom (s.heap.objs.size + 1) scope.names closure) qual none code (some outer) builtins) { s with heap := pushCells (s.heap.push { cls := .type "dict", data := .dict #[] }) scope.names }) :
    wpAny M A (newFunctionEnv scope globals closure [] qual none code (some outer) builtins) Q E s := by
  simp only [newFunctionEnv, Option.isSome_some, if_true]
  refine wpAny_bind (wpAny_alloc ?_)
  refine wpAny_bind (wpAny_layCells _ (fun name kind cells => by cases hkc : kind == NameKind.cell <;> simp [hkc]) _ _ _ _ ?_)
  rw [show ({ s with heap := s.heap.push { cls := .type "dict", data := .dict #[] } } : Shared).heap.objs.size = s.heap.objs.size + 1 from Heap.size_push ..]
  simp only [List.forIn_nil]
  exact wpAny_pure hQ

/-- the closure's cells, of the frame's -/
noncomputable def closOf (cells : List (Str × Addr)) : List (Str × NameKind) → List (Str × Addr) → Option (List (Str × Addr))
  | [], acc => some acc
  | (x, k) :: r, acc => if k == .free then (match cells.lookup x with | some a => closOf cells r ((x, a) :: acc) | none => none) else closOf cells r acc
theorem closureFor_of {sc : Scope} {env : Env} {cl : List (Str × Addr)} (h : closOf env.cells sc.names [] = some cl) : closureFor sc env = pure cl := by
  have aux : ∀ (names : List (Str × NameKind)) (acc : List (Str × Addr)), closOf env.cells names acc = some cl →
      (forIn names acc fun x r => match x with | (name, kind) => if kind == .free then do let a ← cellOf env name; pure (ForInStep.yield ((name, a) :: r)) else pure (ForInStep.yield r) : Sem (List (Str × Addr))) = pure cl := by
    intro names
    induction names with
    | nil => intro acc e; cases e; rfl
    | cons p r ih =>
      intro acc e
      obtain ⟨x, k⟩ := p
      unfold closOf at e
      rw [List.forIn_cons]
      cases hk : k == NameKind.free with
      | false =>
        rw [hk] at e
        simp only [hk, Bool.false_eq_true, if_false, pure_bind]
        exact ih _ e
      | true =>
        rw [hk] at e
        simp only [if_true] at e
        cases hl : env.cells.lookup x with
        | none => rw [hl] at e; cases e
        | some a =>
          rw [hl] at e
          simp only [hk, if_true, cellOf, hl, pure_bind]
          exact ih _ e
  have := aux sc.names [] h
  have e : closureFor sc env = (forIn sc.names [] fun x r => match x with | (name, kind) => if kind == .free then do let a ← cellOf env name; pure (ForInStep.yield ((name, a) :: r)) else pure (ForInStep.yield r) : Sem (List (Str × Addr))) >>= fun cs => pure cs := rfl
  rw [e, this]
  rfl
theorem closOf_lookup {cells : List (Str × Addr)} : ∀ {names : List (Str × NameKind)} {acc cl : List (Str × Addr)} {x : Str}, closOf cells names acc = some cl → (names.map (·.1)).Nodup →
    cl.lookup x = if names.lookup x = some .free then cells.lookup x else acc.lookup x
  | [], acc, cl, x, h, _ => by cases h; simp
  | (y, k) :: r, acc, cl, x, h, nd => by
    rw [List.map_cons, List.nodup_cons] at nd
    unfold closOf at h
    have nx : y ∉ r.map (·.1) → r.lookup y = none := fun q => by
      cases e : r.lookup y with
      | none => rfl
      | some k' => exact absurd (List.mem_map_of_mem (f := (·.1)) (mem_of_lookup e)) q
    split at h
    · rename_i hk
      have hk' : k = .free := by simpa using hk
      subst hk'
      cases hl : cells.lookup y with
      | none => rw [hl] at h; cases h
      | some a =>
        rw [hl] at h
        rw [closOf_lookup h nd.2]
        by_cases hx : x = y
        · subst hx
          rw [nx nd.1, lookup_hit, lookup_hit, if_pos rfl, if_neg (by simp), hl]
        · rw [lookup_skip hx, lookup_skip hx]
    · rename_i hk
      rw [closOf_lookup h nd.2]
      by_cases hx : x = y
      · subst hx
        rw [nx nd.1, lookup_hit, if_neg (by simp), if_neg (by simpa using hk)]
      · rw [lookup_skip hx]

theorem relabel_get {env : Env} : ∀ {names : List (Str × NameKind)} {x : Str} {k : NameKind}, names.lookup x = some k →
    (names.map fun (n, k) => if (k == NameKind.free && env.scope.kind == .function && env.kindOf n == some .cell) then (n, NameKind.cell) else (n, k)).lookup x
      = some (if (k == NameKind.free && env.scope.kind == .function && env.kindOf x == some .cell) then .cell else k)
  | [], _, _, h => by simp at h
  | (n, k') :: r, x, k, h => by
    have ih := @relabel_get env r x k
    show List.lookup x ((if (k' == NameKind.free && env.scope.kind == .function && env.kindOf n == some .cell) = true then (n, NameKind.cell) else (n, k')) :: _) = _
    by_cases hx : x = n
    · subst hx
      rw [lookup_hit] at h; cases h
      by_cases hc : (k' == NameKind.free && env.scope.kind == .function && env.kindOf x == some .cell) = true
      · rw [if_pos hc, if_pos hc, lookup_hit]
      · rw [if_neg hc, if_neg hc, lookup_hit]
    · rw [lookup_skip hx] at h
      by_cases hc : (k' == NameKind.free && env.scope.kind == .function && env.kindOf n == some .cell) = true
      · rw [if_pos hc, lookup_skip hx]; exact ih h
      · rw [if_neg hc, lookup_skip hx]; exact ih h

/-- the free names, one by one -/
noncomputable def FrOk (sc : Scope) : List (Str × Option Addr) → Prop
  | [] => True
  | (x, some a) :: r => sc.names.lookup x = some .free ∧ FrOk sc r
  | (x, none) :: _ => False
theorem lookup_of_mem' : ∀ {names : List (Str × NameKind)} {x : Str} {k : NameKind}, (names.map (·.1)).Nodup → (x, k) ∈ names → names.lookup x = some k
  | (y, k') :: r, x, k, nd, m => by
    rw [List.map_cons, List.nodup_cons] at nd
    rcases List.mem_cons.mp m with e | m
    · cases e; exact lookup_hit
    · rw [lookup_skip (fun e => nd.1 (by rw [← e]; exact List.mem_map_of_mem (f := (·.1)) m))]
      exact lookup_of_mem' nd.2 m
theorem FrOk.mem {sc : Scope} : ∀ {fr : List (Str × Option Addr)}, FrOk sc fr → ∀ p ∈ fr, ∃ a, p.2 = some a ∧ sc.names.lookup p.1 = some .free
  | (x, some a) :: r, h, p, m => by
    rcases memc m with rfl | m
    · exact ⟨a, rfl, h.1⟩
    · exact h.2.mem p m
theorem cells_news : ∀ (names : List (Str × NameKind)) (h : Heap) (a : Addr), a ∈ (scopeVs h.objs.size names).filterMap (·.2) → (pushCells h names).IsCell a none
  | [], h, a, m => nomatch m
  | (x, k) :: r, h, a, m => by
    unfold scopeVs at m
    unfold pushCells
    by_cases hk : k = .local
    · subst hk
      rw [if_pos (by rfl)] at m
      rw [if_neg (by decide)]
      simp only [List.filterMap_cons] at m
      exact cells_news r h a m
    · rw [if_neg (by simpa using hk)] at m
      by_cases hc : k = .cell
      · subst hc
        rw [if_pos (by rfl)] at m
        rw [if_pos (by rfl)]
        simp only [List.filterMap_cons] at m
        rcases memc m with rfl | m
        · exact ⟨_, pushCells_keeps _ _ _ _ (Heap.get?_push_size _ rfl), rfl⟩
        · exact cells_news r _ a (by rw [Heap.size_push]; exact m)
      · rw [if_neg (by simpa using hc)] at m
        rw [if_neg (by simpa using hc)]
        exact cells_news r h a m

/-- the context of a comprehension's block: its result lies at N, its names at N + 1 -/
noncomputable abbrev compCx (c : Cx) (sc : Scope) (cl : List (Str × Addr)) (fr : List (Str × Option Addr)) (N : Addr) (ds : List (Option D)) : Cx :=
  { w := c.w, h₀ := c.h₀, X := (N :: (N + 1) :: (scopeVs (N + 2) sc.names).filterMap (·.2)) ++ c.X, env := compEnvC sc (cellsFrom (N + 2) sc.names cl) (N + 1) c.env, vs := scopeVs (N + 2) sc.names ++ fr, ds }

/-- what a comprehension's scope must be -/
structure CompOk (c : Cx) (sc : Scope) (cl : List (Str × Addr)) (is : List Nat) (fr : List (Str × Option Addr)) : Prop where
  hcl : closOf c.env.cells sc.names [] = some cl
  kind : sc.kind = .function
  nd : (sc.names.map (·.1)).Nodup
  hfr : FrOk sc fr
  his : is.map (fun i => c.vs[i]?) = fr.map some
  isnd : is.Nodup

theorem CompOk.get {c : Cx} {sc : Scope} {cl : List (Str × Addr)} {is : List Nat} {fr : List (Str × Option Addr)} (h : CompOk c sc cl is fr) {j : Nat} {p : Str × Option Addr} (e : fr[j]? = some p) : ∃ i, is[j]? = some i ∧ c.vs[i]? = some p := by
  have h1 : (fr.map some)[j]? = some (some p) := by rw [List.getElem?_map, e]; rfl
  rw [← h.his, List.getElem?_map] at h1
  cases q : is[j]? with
  | none => rw [q] at h1; cases h1
  | some i => rw [q] at h1; exact ⟨i, rfl, by simpa using h1⟩
theorem CompOk.old {c : Cx} {sc : Scope} {cl : List (Str × Addr)} {is : List Nat} {fr : List (Str × Option Addr)} (h : CompOk c sc cl is fr) {x : Str} {a : Addr} (m : (x, some a) ∈ fr) : ∃ i : Nat, c.vs[i]? = some (x, some a) := by
  obtain ⟨j, e⟩ := List.getElem?_of_mem m
  obtain ⟨i, _, e'⟩ := h.get e
  exact ⟨i, e'⟩
theorem CompOk.own {c : Cx} {sc : Scope} {cl : List (Str × Addr)} {is : List Nat} {fr : List (Str × Option Addr)} (h : CompOk c sc cl is fr) {x : Str} {a : Addr} (m : (x, some a) ∈ fr) : a ∈ c.own := by
  obtain ⟨i, e⟩ := h.old m
  exact .tail _ (List.mem_filterMap.mpr ⟨_, List.mem_of_getElem? e, rfl⟩)

theorem comp_enter {c : Cx} {sc : Scope} {cl : List (Str × Addr)} {is : List Nat} {fr : List (Str × Option Addr)} {s : Shared} (h : CompOk c sc cl is fr) (ok : Ok c) (st : St c s) {tk : Nat} :
    Ok (compCx c sc cl fr s.heap.objs.size ((scopeVs 0 sc.names).map (fun _ => none) ++ is.map fun i => (c.ds[i]?).getD none)) ∧
    St (compCx c sc cl fr s.heap.objs.size ((scopeVs 0 sc.names).map (fun _ => none) ++ is.map fun i => (c.ds[i]?).getD none))
      { s with heap := pushCells ((s.heap.push { cls := .type "list", data := .seq ([] : List Value).toArray }).push { cls := .type "dict", data := .dict #[] }) sc.names, toks := tk } := by
  have lt : ∀ a o, s.heap.get? a = some o → a < s.heap.objs.size := fun a o e => Heap.lt_size e
  have up : ∀ a o, s.heap.get? a = some o → (pushCells ((s.heap.push { cls := .type "list", data := .seq ([] : List Value).toArray }).push { cls := .type "dict", data := .dict #[] }) sc.names).get? a = some o :=
    fun a o e => pushCells_keeps _ _ _ _ (Heap.get?_push_of_some _ (Heap.get?_push_of_some _ e))
  have frl : ∀ x a, (x, some a) ∈ fr → a < s.heap.objs.size := fun x a m => by
    obtain ⟨i, e⟩ := h.old m
    obtain ⟨ov, ⟨o, g, _⟩, _⟩ := st.cells i x a e
    exact lt _ _ g
  have frs : ∀ x o, (x, o) ∈ fr → ∃ a, o = some a ∧ sc.names.lookup x = some .free := fun x o m => h.hfr.mem _ m
  have fresh : ∀ b, s.heap.objs.size ≤ b → c.h₀.get? b = none := fun b hb => by
    cases e : c.h₀.get? b with
    | none => rfl
    | some o => exact absurd (lt _ _ (st.old _ _ e)) (Nat.not_lt.mpr hb)
  have newge : ∀ b ∈ s.heap.objs.size :: (s.heap.objs.size + 1) :: (scopeVs (s.heap.objs.size + 2) sc.names).filterMap (·.2), s.heap.objs.size ≤ b := fun b hb => by
    rcases memc hb with rfl | hb
    · exact Nat.le_refl _
    · rcases memc hb with rfl | hb
      · exact Nat.le_succ _
      · obtain ⟨⟨x, o⟩, hx, e⟩ := List.mem_filterMap.mp hb
        simp only at e; subst e
        exact Nat.le_trans (Nat.le_add_right _ 2) (scopeVs_ge hx)
  have frnd : (fr.map (·.1)).Nodup := by
    refine List.pairwise_iff_getElem.mpr fun i j hi hj hij e => ?_
    rw [List.length_map] at hj
    rw [List.getElem_map, List.getElem_map] at e
    obtain ⟨i', e1, e2⟩ := h.get (List.getElem?_eq_getElem (show i < fr.length by lia))
    obtain ⟨j', e3, e4⟩ := h.get (List.getElem?_eq_getElem hj)
    have : i' = j' := nd_get (x := fr[i].1) (y := fr[i].2) (z := fr[j].2) ok.nd e2 (by rw [e4]; congr 1; exact Prod.ext e.symm rfl)
    subst this
    obtain ⟨b1, b2⟩ := List.getElem?_eq_some_iff.mp e1
    obtain ⟨b3, b4⟩ := List.getElem?_eq_some_iff.mp e3
    exact (List.pairwise_iff_getElem.mp h.isnd) i j b1 b3 hij (b2.trans b4.symm)
  have clk : ∀ x a, (x, some a) ∈ fr → cl.lookup x = some a := fun x a m => by
    obtain ⟨i, e⟩ := h.old m
    obtain ⟨_, e1, e2⟩ := frs _ _ m
    rw [closOf_lookup h.hcl h.nd, if_pos e2]
    exact (ok.cel x a (List.mem_of_getElem? e)).2
  have okN : Ok (compCx c sc cl fr s.heap.objs.size ((scopeVs 0 sc.names).map (fun _ => none) ++ is.map fun i => (c.ds[i]?).getD none)) := by
    refine ⟨ok.base, h.kind, ok.glob, ok.blt, fun x hx => ?_, fun x a hx => ?_, ?_, ?_, fun a m => ?_, fun a m => ?_⟩
    · rcases List.mem_append.mp hx with hx | hx
      · exact lookup_relabel_local (scopeVs_loc h.nd hx)
      · obtain ⟨a, e, _⟩ := frs _ _ hx; cases e
    · rcases List.mem_append.mp hx with hx | hx
      · refine ⟨.inl ?_, cellsFrom_hit h.nd hx⟩
        show List.lookup x _ = _
        exact (relabel_get (scopeVs_cel h.nd hx)).trans (by rw [if_neg (by simp)])
      · obtain ⟨_, e, hf⟩ := frs _ _ hx
        constructor
        · show List.lookup x _ = _ ∨ List.lookup x _ = _
          rw [show List.lookup x (compEnvC sc (cellsFrom (s.heap.objs.size + 2) sc.names cl) (s.heap.objs.size + 1) c.env).scope.names = _ from relabel_get hf]
          split
          · exact .inl rfl
          · exact .inr rfl
        · show (cellsFrom (s.heap.objs.size + 2) sc.names cl).lookup x = some a
          rw [cellsFrom_other, clk x a hx]
          rintro k hk rfl
          have : sc.names.lookup x = some .cell := lookup_of_mem' h.nd hk
          rw [hf] at this; cases this
    · show ((scopeVs (s.heap.objs.size + 2) sc.names ++ fr).map (·.1)).Nodup
      rw [List.map_append, List.nodup_append]
      refine ⟨scopeVs_nd h.nd, frnd, fun x hx y hy e => ?_⟩
      subst e
      obtain ⟨⟨x', o⟩, m, e⟩ := List.mem_map.mp hx
      obtain ⟨⟨y', o'⟩, m', e'⟩ := List.mem_map.mp hy
      simp only at e e'
      subst e
      subst e'
      obtain ⟨_, _, hf⟩ := frs _ _ m'
      cases o with
      | none => rw [scopeVs_loc h.nd m] at hf; cases hf
      | some a => rw [scopeVs_cel h.nd m] at hf; cases hf
    · show ((scopeVs (s.heap.objs.size + 2) sc.names ++ fr).filterMap (·.2)).Nodup
      rw [List.filterMap_append, List.nodup_append]
      refine ⟨scopeVs_ndc, ?_, fun x hx y hy e => ?_⟩
      · have : ∀ (l : List (Str × Option Addr)), (∀ p ∈ l, p ∈ fr) → (l.map (·.1)).Nodup → (l.filterMap (·.2)).Nodup := by
          intro l
          induction l with
          | nil => intro _ _; exact List.nodup_nil
          | cons p r ih =>
            intro hl hn
            obtain ⟨x, o⟩ := p
            rw [List.map_cons, List.nodup_cons] at hn
            cases o with
            | none => simpa using ih (fun p m => hl p (.tail _ m)) hn.2
            | some a =>
              simp only [List.filterMap_cons]
              refine List.nodup_cons.mpr ⟨fun q => ?_, ih (fun p m => hl p (.tail _ m)) hn.2⟩
              obtain ⟨⟨y, o'⟩, m, e⟩ := List.mem_filterMap.mp q
              simp only at e; subst e
              obtain ⟨i, e1⟩ := h.old (hl _ (.head _))
              obtain ⟨j, e2⟩ := h.old (hl _ (.tail _ m))
              have := ndc_get ok.ndc e1 e2
              subst this
              rw [e1] at e2; cases e2
              exact hn.1 (List.mem_map_of_mem (f := (·.1)) m)
        exact this fr (fun _ m => m) frnd
      · subst e
        obtain ⟨⟨x', o⟩, m, e⟩ := List.mem_filterMap.mp hx
        obtain ⟨⟨y', o'⟩, m', e'⟩ := List.mem_filterMap.mp hy
        simp only at e e'
        subst e; subst e'
        have h1 := scopeVs_ge m
        have h2 := frl _ _ m'
        exact absurd (Nat.lt_of_lt_of_le h2 (Nat.le_trans (Nat.le_add_right _ 2) h1)) (Nat.lt_irrefl _)
    · have m' : a = s.heap.objs.size + 1 ∨ a ∈ (scopeVs (s.heap.objs.size + 2) sc.names ++ fr).filterMap (·.2) := List.mem_cons.mp m
      rw [List.filterMap_append] at m'
      rcases m' with rfl | m'
      · exact .tail _ (.head _)
      · rcases List.mem_append.mp m' with m' | m'
        · exact .tail _ (.tail _ (List.mem_append_left _ m'))
        · obtain ⟨⟨y', o'⟩, q, e'⟩ := List.mem_filterMap.mp m'
          simp only at e'; subst e'
          exact List.mem_append_right _ (ok.own _ (h.own q))
    · rcases List.mem_append.mp m with m | m
      · exact fresh _ (newge _ m)
      · exact ok.new _ m
  refine ⟨okN, fun b o e => up _ _ (st.old b o e), fun a m => ?_, ?_, ⟨_, (Heap.Ns.new (s.heap.push { cls := .type "list", data := .seq ([] : List Value).toArray }) (.type "dict")).keeps (pushCells_keeps _ _) |> fun q => by rw [Heap.size_push] at q; exact q, fun i x d e1 e2 => ?_⟩, fun i x a e1 => ?_⟩
  · rcases List.mem_append.mp m with m | m
    · rcases memc m with rfl | m
      · exact ⟨_, pushCells_keeps _ _ _ _ (Heap.get?_push_of_some _ (Heap.get?_push_size _ rfl))⟩
      · rcases memc m with rfl | m
        · have := Heap.get?_push_size (s.heap.push { cls := .type "list", data := .seq ([] : List Value).toArray }) (o := { cls := .type "dict", data := .dict #[] }) rfl
          rw [Heap.size_push] at this
          exact ⟨_, pushCells_keeps _ _ _ _ this⟩
        · have := cells_news sc.names ((s.heap.push { cls := .type "list", data := .seq ([] : List Value).toArray }).push { cls := .type "dict", data := .dict #[] }) a (by rw [Heap.size_push, Heap.size_push]; exact m)
          obtain ⟨o, g, _⟩ := this
          exact ⟨o, g⟩
    · obtain ⟨o, e⟩ := st.low a m
      exact ⟨o, up _ _ e⟩
  · show ((scopeVs 0 sc.names).map (fun _ => none) ++ is.map fun i => (c.ds[i]?).getD none).length = (scopeVs (s.heap.objs.size + 2) sc.names ++ fr).length
    rw [List.length_append, List.length_append, List.length_map, List.length_map]
    have h1 : is.length = fr.length := by
      have := congrArg List.length h.his
      simpa using this
    have h2 := congrArg List.length (scopeVs_map (fun y => y) sc.names 0 (s.heap.objs.size + 2))
    simp only [List.length_map] at h2
    rw [h1, h2]
  · have hl : (scopeVs 0 sc.names).length = (scopeVs (s.heap.objs.size + 2) sc.names).length := by
      have h2 := congrArg List.length (scopeVs_map (fun y => y) sc.names 0 (s.heap.objs.size + 2))
      simpa only [List.length_map] using h2
    exfalso
    rcases Nat.lt_or_ge i (scopeVs (s.heap.objs.size + 2) sc.names).length with hi | hi
    · have e2' : ((scopeVs 0 sc.names).map (fun _ => (none : Option D)) ++ is.map fun i => (c.ds[i]?).getD none)[i]? = some (some d) := e2
      rw [List.getElem?_append_left (by rw [List.length_map]; lia), List.getElem?_map] at e2'
      cases q : (scopeVs 0 sc.names)[i]? <;> rw [q] at e2' <;> cases e2'
    · have e1' : (scopeVs (s.heap.objs.size + 2) sc.names ++ fr)[i]? = some (x, none) := e1
      rw [List.getElem?_append_right hi] at e1'
      obtain ⟨_, e, _⟩ := frs _ _ (List.mem_of_getElem? e1'); cases e
  · have hl : (scopeVs 0 sc.names).length = (scopeVs (s.heap.objs.size + 2) sc.names).length := by
      have h2 := congrArg List.length (scopeVs_map (fun y => y) sc.names 0 (s.heap.objs.size + 2))
      simpa only [List.length_map] using h2
    have e1' : (scopeVs (s.heap.objs.size + 2) sc.names ++ fr)[i]? = some (x, some a) := e1
    rcases Nat.lt_or_ge i (scopeVs (s.heap.objs.size + 2) sc.names).length with hi | hi
    · rw [List.getElem?_append_left hi] at e1'
      refine ⟨none, cells_news _ _ _ (List.mem_filterMap.mpr ⟨_, by rw [Heap.size_push, Heap.size_push]; exact List.mem_of_getElem? e1', rfl⟩), fun d e2 => ?_⟩
      have e2' : ((scopeVs 0 sc.names).map (fun _ => (none : Option D)) ++ is.map fun i => (c.ds[i]?).getD none)[i]? = some (some d) := e2
      rw [List.getElem?_append_left (by rw [List.length_map]; lia), List.getElem?_map] at e2'
      cases q : (scopeVs 0 sc.names)[i]? <;> rw [q] at e2' <;> cases e2'
    · rw [List.getElem?_append_right hi] at e1'
      obtain ⟨i', q1, q2⟩ := h.get e1'
      obtain ⟨ov, ⟨o, g, hd⟩, hv⟩ := st.cells i' x a q2
      refine ⟨ov, ⟨o, up _ _ g, hd⟩, fun d e2 => ?_⟩
      have e2' : ((scopeVs 0 sc.names).map (fun _ => (none : Option D)) ++ is.map fun i => (c.ds[i]?).getD none)[i]? = some (some d) := e2
      rw [List.getElem?_append_right (by rw [List.length_map]; lia), List.getElem?_map, List.length_map, hl, q1] at e2'
      cases q : c.ds[i']? with
      | none => simp [q] at e2'
      | some od =>
        simp [q] at e2'
        subst e2'
        obtain ⟨v, hv1, hv2⟩ := hv d q
        refine ⟨v, hv1, (hv2.more fun b hb => ?_).ext fun b o e => up b o e⟩
        rcases List.mem_append.mp hb with hb | hb
        · refine .inr ?_
          cases z : s.heap.get? b with
          | none => rfl
          | some o' => exact absurd (lt _ _ z) (Nat.not_lt.mpr (newge _ hb))
        · exact .inl hb
end Mine
end
section
open PySem PySem.W PyProof.Rows
set_option Elab.async false
set_option linter.unusedVariables false
namespace Mine

theorem Step.unseen' {W Y : List Addr} {gs} {s₀ s s' : Shared} (p : Step Y [] s₀ s) (q : Step (W ++ Y) gs s s') (h : ∀ a ∈ W, s₀.heap.get? a = none) (hg : ∀ g ∈ gs, s₀.gens[g]? = none) : Step Y [] s₀ s' :=
  ⟨fun b o n e => q.ext b o (fun m => (List.mem_append.mp m).elim (fun m => by rw [h b m] at e; cases e) n) (p.ext b o n e), q.os.trans p.os, fun x => q.bare (p.bare x),
    fun g st n e => q.gen g st (fun m => by rw [hg g m] at e; cases e) (p.gen g st n e), Nat.le_trans p.gsize q.gsize⟩

noncomputable abbrev ds0 (c : Cx) (sc : Scope) (is : List Nat) : List (Option D) := (scopeVs 0 sc.names).map (fun _ => none) ++ is.map fun i => (c.ds[i]?).getD none
/-- the addresses of a comprehension's own objects -/
noncomputable abbrev compNew (sc : Scope) (N : Addr) : List Addr := N :: (N + 1) :: (scopeVs (N + 2) sc.names).filterMap (·.2)
theorem compNew_ge {sc : Scope} {N b : Addr} (h : b ∈ compNew sc N) : N ≤ b := by
  rcases memc h with rfl | hb
  · exact Nat.le_refl _
  · rcases memc hb with rfl | hb
    · exact Nat.le_succ _
    · obtain ⟨⟨x, o⟩, hx, e⟩ := List.mem_filterMap.mp hb
      simp only at e; subst e
      exact Nat.le_trans (Nat.le_add_right _ 2) (scopeVs_ge hx)
theorem compCx_wr {c : Cx} {sc : Scope} {cl : List (Str × Addr)} {is : List Nat} {fr : List (Str × Option Addr)} (h : CompOk c sc cl is fr) {N : Addr} {ds} (hfr : ∀ x a, (x, some a) ∈ fr → a < N) {a : Addr} (m : a ∈ (compCx c sc cl fr N ds).wr) : a ∈ compNew sc N ∧ a ≠ N := by
  have hl : N + 1 ≤ a := of_decide_eq_true (List.mem_filter.mp m).2
  have m' : a = N + 1 ∨ a ∈ (scopeVs (N + 2) sc.names ++ fr).filterMap (·.2) := List.mem_cons.mp (Cx.wr_own m)
  refine ⟨?_, fun e => Nat.not_succ_le_self N (e ▸ hl)⟩
  rcases m' with rfl | m'
  · exact .tail _ (.head _)
  · rw [List.filterMap_append] at m'
    rcases List.mem_append.mp m' with m' | m'
    · exact .tail _ (.tail _ m')
    · obtain ⟨⟨y', o'⟩, q, e'⟩ := List.mem_filterMap.mp m'
      simp only at e'; subst e'
      exact absurd (Nat.lt_of_lt_of_le (hfr _ _ q) (Nat.le_of_succ_le hl)) (Nat.lt_irrefl _)
theorem fresh_ge {h : Heap} {a : Addr} (hb : h.objs.size ≤ a) : h.get? a = none := by
  cases e : h.get? a with
  | none => rfl
  | some o => exact absurd (Heap.lt_size e) (Nat.not_lt.mpr hb)

section
variable {n : Nat} {c : Cx} {elt tg iter : Expr} {ifs : List Expr} {sc : Scope} {pos : Pos} {cl : List (Str × Addr)} {is : List Nat} {fr : List (Str × Option Addr)} {A : Around} {s₀ : Shared} {E : Value → Shared → Prop}

/-- what holds when a comprehension's block begins -/
structure CompIn (c : Cx) (sc : Scope) (cl : List (Str × Addr)) (is : List Nat) (fr : List (Str × Option Addr)) (io : List Addr) (gs : List Nat) (s₀ s₁ s₂ : Shared) : Prop where
  pure1 : Pure s₀ s₁
  pure2 : Pure s₁ s₂
  ioF : ∀ a ∈ io, s₀.heap.get? a = none
  ioX : ∀ a ∈ io, a ∉ (compCx c sc cl fr s₁.heap.objs.size (ds0 c sc is)).X
  ioH : ∀ a ∈ io, c.h₀.get? a = none
  gsF : ∀ g ∈ gs, s₀.gens[g]? = none
  news : ∀ a ∈ compNew sc s₁.heap.objs.size, s₁.heap.get? a = none
  nX : ∀ a ∈ compNew sc s₁.heap.objs.size, a ∉ c.X
  ok : Ok (compCx c sc cl fr s₁.heap.objs.size (ds0 c sc is))
  st : St ((compCx c sc cl fr s₁.heap.objs.size (ds0 c sc is)).lay io) s₂
  res : s₂.heap.PlainList s₁.heap.objs.size #[]
  wr : ∀ a ∈ (compCx c sc cl fr s₁.heap.objs.size (ds0 c sc is)).wr, a ∈ compNew sc s₁.heap.objs.size ∧ a ≠ s₁.heap.objs.size

theorem comp_begin (H : CompOk c sc cl is fr) (g : Comprehension) (gens : List Comprehension) (items : List D) (ok : Ok c) (rm : Rm n A) (hn : 4 ≤ n) (st : St c s₀) (hi : EvI n c g.iter g.target items) {Q : Value → Shared → Prop}
    (k : ∀ (it : Value) (io : List Addr) (gs : List Nat) (J : List Addr → List Addr → List D → Shared → Prop) (s₁ s₂ : Shared), ItK c.w c.h₀ A g.target gs it J → CompIn c sc cl is fr io gs s₀ s₁ s₂ → J io (io ++ (compCx c sc cl fr s₁.heap.objs.size (ds0 c sc is)).X) items s₂ →
      codeAny c.M A (.compLoop (.ListComp elt (g :: gens) sc pos) 0 it (.ref s₁.heap.objs.size) (compCx c sc cl fr s₁.heap.objs.size (ds0 c sc is)).env) (compPost c.M A E none Q (.ref s₁.heap.objs.size) (s₁.heap.objs.size + 1)) s₂)
    (hg : g.is_async = 0 := by rfl) (hs : ∀ x, foldedSetIterable g.iter c.env x = pure x := by intro _; rfl) :
    wpAny c.M A (eval (.ListComp elt (g :: gens) sc pos) c.env) Q E s₀ := by
  obtain ⟨tg, iter, ifs, as⟩ := g
  simp only at hg hs hi
  subst hg
  rw [eval_ListComp]
  refine wpAny_comprehension_free (use := none) rfl hs (closureFor_of H.hcl) H.kind (fun x hx e => ?_) ?_
  · obtain ⟨y, kd⟩ := x
    simp only at e
    subst e
    exact lookup_of_mem' H.nd hx
  refine hi ok A s₀ _ _ rm st fun it io gs J s₁ ik p₁ hio hgs hJ => ?_
  have st₁ := st.pure p₁
  obtain ⟨okc, stc⟩ := comp_enter H ok st₁ (tk := s₁.toks)
  refine wpAny_newObj_type (wpAny_newEnvComp ?_)
  dsimp only
  rw [Heap.size_push]
  have up : ∀ a o, s₁.heap.get? a = some o → (pushCells ((s₁.heap.push { cls := .type "list", data := .seq ([] : List Value).toArray }).push { cls := .type "dict", data := .dict #[] }) sc.names).get? a = some o :=
    fun a o e => pushCells_keeps _ _ _ _ (Heap.get?_push_of_some _ (Heap.get?_push_of_some _ e))
  have p₂ : Pure s₁ { s₁ with heap := pushCells ((s₁.heap.push { cls := .type "list", data := .seq ([] : List Value).toArray }).push { cls := .type "dict", data := .dict #[] }) sc.names, toks := s₁.toks } := .heap fun b o _ e => up b o e
  have ioL := ik.there hJ
  have ioN : ∀ a ∈ io, ∀ b, s₁.heap.objs.size ≤ b → a ≠ b := fun a m b hb e => by
    obtain ⟨o, g⟩ := ioL a m
    have := Heap.lt_size g
    rw [e] at this
    exact absurd this (Nat.not_lt.mpr hb)
  have ioc : ∀ a ∈ io, a ∉ c.X := fun a m q => by obtain ⟨o, e⟩ := st.low a q; rw [hio a m] at e; cases e
  have ioX : ∀ a ∈ io, a ∉ (compCx c sc cl fr s₁.heap.objs.size (ds0 c sc is)).X := fun a m q => by
    rcases List.mem_append.mp q with q | q
    · exact ioN a m a (compNew_ge q) rfl
    · exact ioc a m q
  have ioH : ∀ a ∈ io, c.h₀.get? a = none := fun a m => by
    cases e : c.h₀.get? a with
    | none => rfl
    | some o => have := st.old _ _ e; rw [hio a m] at this; cases this
  have nX : ∀ a ∈ compNew sc s₁.heap.objs.size, a ∉ c.X := fun a m q => by
    obtain ⟨o, e⟩ := st₁.low a q
    rw [fresh_ge (compNew_ge m)] at e; cases e
  have stL : St ((compCx c sc cl fr s₁.heap.objs.size (ds0 c sc is)).lay io) { s₁ with heap := pushCells ((s₁.heap.push { cls := .type "list", data := .seq ([] : List Value).toArray }).push { cls := .type "dict", data := .dict #[] }) sc.names, toks := s₁.toks } := by
    have up' := p₂
    refine ⟨stc.old, fun a m => (List.mem_append.mp m).elim (fun m => ?_) (stc.low a), stc.len, ?_, ?_⟩
    · obtain ⟨o, e⟩ := ioL a m; exact ⟨o, up _ _ e⟩
    · obtain ⟨m, hm, h⟩ := stc.ns
      refine ⟨m, hm, fun i x d e1 e2 => ?_⟩
      exfalso
      have hl : (scopeVs 0 sc.names).length = (scopeVs (s₁.heap.objs.size + 2) sc.names).length := by
        have h2 := congrArg List.length (scopeVs_map (fun y => y) sc.names 0 (s₁.heap.objs.size + 2))
        simpa only [List.length_map] using h2
      rcases Nat.lt_or_ge i (scopeVs (s₁.heap.objs.size + 2) sc.names).length with hi | hi
      · have e2' : ((scopeVs 0 sc.names).map (fun _ => (none : Option D)) ++ is.map fun i => (c.ds[i]?).getD none)[i]? = some (some d) := e2
        rw [List.getElem?_append_left (by rw [List.length_map]; lia), List.getElem?_map] at e2'
        cases q : (scopeVs 0 sc.names)[i]? <;> rw [q] at e2' <;> cases e2'
      · have e1' : (scopeVs (s₁.heap.objs.size + 2) sc.names ++ fr)[i]? = some (x, none) := e1
        rw [List.getElem?_append_right hi] at e1'
        obtain ⟨_, e, _⟩ := H.hfr.mem _ (List.mem_of_getElem? e1'); cases e
    · intro i x a e1
      obtain ⟨ov, hc, h⟩ := stc.cells i x a e1
      refine ⟨ov, hc, fun d e2 => ?_⟩
      have hl : (scopeVs 0 sc.names).length = (scopeVs (s₁.heap.objs.size + 2) sc.names).length := by
        have h2 := congrArg List.length (scopeVs_map (fun y => y) sc.names 0 (s₁.heap.objs.size + 2))
        simpa only [List.length_map] using h2
      have e1' : (scopeVs (s₁.heap.objs.size + 2) sc.names ++ fr)[i]? = some (x, some a) := e1
      have e2' : ((scopeVs 0 sc.names).map (fun _ => (none : Option D)) ++ is.map fun i => (c.ds[i]?).getD none)[i]? = some (some d) := e2
      rcases Nat.lt_or_ge i (scopeVs (s₁.heap.objs.size + 2) sc.names).length with hi | hi
      · rw [List.getElem?_append_left (by rw [List.length_map]; lia), List.getElem?_map] at e2'
        cases q : (scopeVs 0 sc.names)[i]? <;> rw [q] at e2' <;> cases e2'
      · rw [List.getElem?_append_right hi] at e1'
        obtain ⟨i', q1, q2⟩ := H.get e1'
        rw [List.getElem?_append_right (by rw [List.length_map]; lia), List.getElem?_map, List.length_map, hl, q1] at e2'
        obtain ⟨ov0, ⟨o0, g0, hd0⟩, hv0⟩ := st.cells i' x a q2
        obtain ⟨o, g, hd⟩ := hc
        have : o = o0 := Option.some.inj (g.symm.trans (p₂.pure _ _ (p₁.pure _ _ g0)))
        subst this
        rw [hd0] at hd
        have : ov0 = ov := by cases hd; rfl
        subst this
        cases q : c.ds[i']? with
        | none => simp [q] at e2'
        | some od =>
          simp [q] at e2'
          subst e2'
          obtain ⟨v, hv1, hv2⟩ := hv0 d q
          refine ⟨v, hv1, (hv2.more fun b hb => ?_).ext ((p₁.trans p₂).pure)⟩
          rcases List.mem_append.mp hb with hb | hb
          · exact .inr (hio b hb)
          · rcases List.mem_append.mp hb with hb | hb
            · exact .inr (none_of_ext p₁ (fresh_ge (compNew_ge hb)))
            · exact .inl hb
  have frl : ∀ x a, (x, some a) ∈ fr → a < s₁.heap.objs.size := fun x a m => by
    obtain ⟨i, e⟩ := H.old m
    obtain ⟨ov, ⟨o, g, _⟩, _⟩ := st₁.cells i x a e
    exact Heap.lt_size g
  have hJ' : J io (io ++ (compCx c sc cl fr s₁.heap.objs.size (ds0 c sc is)).X) items { s₁ with heap := pushCells ((s₁.heap.push { cls := .type "list", data := .seq ([] : List Value).toArray }).push { cls := .type "dict", data := .dict #[] }) sc.names, toks := s₁.toks } := by
    refine ik.keep (ik.more hJ fun b hb => ?_) p₂ (by simp) (by simp) (by simp)
    rcases List.mem_append.mp hb with hb | hb
    · exact .inl (List.mem_append_left _ hb)
    · rcases List.mem_append.mp hb with hb | hb
      · exact .inr (fresh_ge (compNew_ge hb))
      · exact .inl (List.mem_append_right _ hb)
  have go := k it io gs J s₁ _ ik ⟨p₁, p₂, hio, ioX, ioH, hgs, fun a m => fresh_ge (compNew_ge m), nX, okc, stL, ⟨_, pushCells_keeps _ _ _ _ (Heap.get?_push_of_some _ (Heap.get?_push_size _ rfl))⟩, fun a m => compCx_wr H frl m⟩ hJ'
  exact codeAny_compStart_list go (ik.self hJ' (rm.less (by lia)) go)
end
end Mine
end
section
open PySem PySem.W PyProof.Rows
set_option Elab.async false
set_option linter.unusedVariables false
namespace Mine

section
variable {n : Nat} {c : Cx} {elt tg iter : Expr} {ifs : List Expr} {sc : Scope} {pos : Pos} {cl : List (Str × Addr)} {is : List Nat} {fr : List (Str × Option Addr)} {A : Around} {s₀ : Shared} {E : Value → Shared → Prop} {Q : Value → Shared → Prop}

/-- the end of a comprehension -/
theorem comp_end {io : List Addr} {gs : List Nat} {s₁ s₂ s' : Shared} {Y : List Addr} {ds : List D} {io₀ : List Addr} (B : CompIn c sc cl is fr io₀ gs s₀ s₁ s₂) (hio : Out (compCx c sc cl fr s₁.heap.objs.size (ds0 c sc is)) s₀ io) (ok : Ok c) (st : St c s₀) (hY : ∀ a ∈ Y, a ∈ c.X) (hYo : ∀ a ∈ Y, a ∉ c.own)
    (stL : St (compCx c sc cl fr s₁.heap.objs.size (ds0 c sc is)) s') (hl : ∃ vs : List Value, s'.heap.PlainList s₁.heap.objs.size vs.toArray ∧ RepL (io ++ (compCx c sc cl fr s₁.heap.objs.size (ds0 c sc is)).X) s'.heap ds vs)
    (p : Step ((s₁.heap.objs.size :: ((compCx c sc cl fr s₁.heap.objs.size (ds0 c sc is)).wr ++ Y)) ++ io) gs s₂ s')
    (k : ∀ v s'', Step Y [] s₀ s'' → St c s'' → Step [s₁.heap.objs.size + 1] [] s' s'' → Rep c.X s''.heap (.lst ds) v → Q v s'') :
    compPost c.M A E none Q (.ref s₁.heap.objs.size) (s₁.heap.objs.size + 1) (.ok .next) s' := by
  obtain ⟨m, hm, _⟩ := stL.ns
  refine ⟨m, hm, fun h' hs => ?_⟩
  obtain ⟨vs, pl, re⟩ := hl
  have q : Step [s₁.heap.objs.size + 1] [] s' { s' with heap := h' } := Step.but (tk := s'.toks) hs (by simp)
  have tot : Step Y [] s₀ { s' with heap := h' } := by
    refine Step.unseen' (W := io ++ compNew sc s₁.heap.objs.size) (gs := gs) ((B.pure1.trans B.pure2).up) ((p.mono (fun a m => ?_) (fun _ h => h)).trans (q.mono (fun a m => ?_) (by simp))) (fun a m => ?_) B.gsF
    · rcases List.mem_append.mp m with m | m
      · rcases memc m with rfl | m
        · exact List.mem_append_left _ (List.mem_append_right _ (.head _))
        · rcases List.mem_append.mp m with m | m
          · exact List.mem_append_left _ (List.mem_append_right _ (B.wr a m).1)
          · exact List.mem_append_right _ m
      · exact List.mem_append_left _ (List.mem_append_left _ m)
    · rw [List.mem_singleton] at m
      subst m
      exact List.mem_append_left _ (List.mem_append_right _ (.tail _ (.head _)))
    · rcases List.mem_append.mp m with m | m
      · exact (hio a m).2.2
      · exact none_of_ext B.pure1 (B.news a m)
  have low : Low c.X h' := fun a m => by
    obtain ⟨o, e⟩ := stL.low a (List.mem_append_right _ m)
    refine ⟨o, q.ext a o (fun z => ?_) e⟩
    obtain rfl := mem1 z
    exact B.nX _ (.tail _ (.head _)) m
  refine k _ _ tot (st.step tot hY (fun a m q => hYo a q m) (fun a o e m => by rw [ok.new a (hY a m)] at e; cases e) (fun a m => low a (hY a m))) q ?_
  have nN : s₁.heap.objs.size ≠ s₁.heap.objs.size + 1 := Nat.ne_of_lt (Nat.lt_succ_self _)
  have sub : ∀ a ∈ [s₁.heap.objs.size + 1], a ∈ io ++ (compCx c sc cl fr s₁.heap.objs.size (ds0 c sc is)).X := fun a m => by
    obtain rfl := mem1 m
    exact List.mem_append_right _ (List.mem_append_left _ (.tail _ (.head _)))
  have re' := (re.extX (q.ext.mono sub)).less (Y := c.X) (fun a m => List.mem_append_right _ (List.mem_append_right _ m))
  exact Rep.lst' (B.nX _ (.head _)) (pl.extBut hs.extBut nN) re'

/-- a turn's outcome: nothing, or one more -/
theorem comp1 (H : CompOk c sc cl is fr) (hn : 4 ≤ n) (items : List D) (R : Nat → List D) (Y : List Addr) (P : Nat → Shared → Prop)
    (ok : Ok c) (rm : Rm n A) (st : St c s₀) (hi : EvI n c iter tg items) (hR0 : R 0 = []) (hRl : ∀ k, (R k).length ≤ sizeLine) (hY : ∀ a ∈ Y, a ∈ c.X) (hYo : ∀ a ∈ Y, a ∉ c.own)
    (hP0 : ∀ s, Pure s₀ s → P 0 s) (hP : ∀ W gs, (∀ a ∈ W, s₀.heap.get? a = none) → ∀ k s s', P k s → Step W gs s s' → P k s')
    (turn : ∀ (io : List Addr) (N : Addr) (k : Nat) (d : D) (s : Shared) (v : Value) (Kn : Shared → Prop) (Ke : Value → Shared → Prop) (E : Value → Shared → Prop), items[k]? = some d → (∀ a ∈ io ++ compNew sc N, s₀.heap.get? a = none) →
      Ok ((compCx c sc cl fr N (ds0 c sc is)).lay io) → St ((compCx c sc cl fr N (ds0 c sc is)).lay io) s → P k s → Step Y [] s₀ s → Rep ((compCx c sc cl fr N (ds0 c sc is)).lay io).X s.heap d v →
      (∀ s', R (k + 1) = R k → St ((compCx c sc cl fr N (ds0 c sc is)).lay io) s' → Step ((compCx c sc cl fr N (ds0 c sc is)).wr ++ Y) [] s s' → P (k + 1) s' → Kn s') →
      (∀ x v s', R (k + 1) = R k ++ [x] → St ((compCx c sc cl fr N (ds0 c sc is)).lay io) s' → Step ((compCx c sc cl fr N (ds0 c sc is)).wr ++ Y) [] s s' → P (k + 1) s' → Rep ((compCx c sc cl fr N (ds0 c sc is)).lay io).X s'.heap x v → Ke v s') →
      wpAny c.M A (assign tg (compCx c sc cl fr N (ds0 c sc is)).env v) (fun _ s₂ => wpAny c.M A (testsM ifs (compCx c sc cl fr N (ds0 c sc is)).env) (fun ok s₃ => if ok = true then wpAny c.M A (eval elt (compCx c sc cl fr N (ds0 c sc is)).env) Ke E s₃ else Kn s₃) E s₂) E s)
    (k : ∀ v s', Step Y [] s₀ s' → St c s' → P items.length s' → Rep c.X s'.heap (.lst (R items.length)) v → Q v s')
    (hs : ∀ x, foldedSetIterable iter c.env x = pure x := by intro _; rfl) :
    wpAny c.M A (eval (.ListComp elt [⟨tg, iter, ifs, 0⟩] sc pos) c.env) Q E s₀ := by
  refine comp_begin H ⟨tg, iter, ifs, 0⟩ [] items ok rm hn st hi (fun it io gs J s₁ s₂ ik B hJ => ?_) rfl hs
  have pX : ∀ a ∈ c.X, ∃ o, s₁.heap.get? a = some o := fun a m => let ⟨o, e⟩ := st.low a m; ⟨o, B.pure1.pure _ _ e⟩
  have nY : s₁.heap.objs.size ∉ Y := fun m => B.nX _ (.head _) (hY _ m)
  have unseen : ∀ io, Out (compCx c sc cl fr s₁.heap.objs.size (ds0 c sc is)) s₀ io → ∀ s, Step ((s₁.heap.objs.size :: ((compCx c sc cl fr s₁.heap.objs.size (ds0 c sc is)).wr ++ Y)) ++ io) gs s₂ s → Step Y [] s₀ s := fun io hio s p =>
    Step.unseen' (W := io ++ compNew sc s₁.heap.objs.size) (gs := gs) ((B.pure1.trans B.pure2).up) (p.mono (fun a m => by
      rcases List.mem_append.mp m with m | m
      · rcases memc m with rfl | m
        · exact List.mem_append_left _ (List.mem_append_right _ (.head _))
        · rcases List.mem_append.mp m with m | m
          · exact List.mem_append_left _ (List.mem_append_right _ (B.wr a m).1)
          · exact List.mem_append_right _ m
      · exact List.mem_append_left _ (List.mem_append_left _ m)) (fun _ h => h)) (fun a m => (List.mem_append.mp m).elim (fun m => (hio a m).2.2) fun m => none_of_ext B.pure1 (B.news a m)) B.gsF
  have nZ : s₁.heap.objs.size ∉ (compCx c sc cl fr s₁.heap.objs.size (ds0 c sc is)).wr ++ Y := fun m => (List.mem_append.mp m).elim (fun m => (B.wr _ m).2 rfl) nY
  have Zsub : ∀ a ∈ (compCx c sc cl fr s₁.heap.objs.size (ds0 c sc is)).wr ++ Y, a ∈ (compCx c sc cl fr s₁.heap.objs.size (ds0 c sc is)).X := fun a m =>
    (List.mem_append.mp m).elim (fun m => List.mem_append_left _ (B.wr a m).1) fun m => List.mem_append_right _ (hY a m)
  refine comp_loop (c := compCx c sc cl fr s₁.heap.objs.size (ds0 c sc is)) (n := n) (turn_1 ..) ik items
    s₀ (fun io k s => P k s ∧ ∃ vs : List Value, s.heap.PlainList s₁.heap.objs.size vs.toArray ∧ RepL (io ++ (compCx c sc cl fr s₁.heap.objs.size (ds0 c sc is)).X) s.heap (R k) vs)
    (s₁.heap.objs.size :: ((compCx c sc cl fr s₁.heap.objs.size (ds0 c sc is)).wr ++ Y)) B.ok rm hn B.st hJ (fun a m => ⟨B.ioX a m, B.ioH a m, B.ioF a m⟩) (fun a m => ?_) (fun a e => none_of_ext (B.pure1.trans B.pure2) e) ⟨hP0 _ (B.pure1.trans B.pure2), [], B.res, by rw [hR0]; exact .nil⟩ ?_ ?_ ?_
  · rcases memc m with rfl | m
    · exact .head _
    · exact Zsub a m
  · rintro io io' k s s' hio ⟨hp, vs, pl, re⟩ stp hn' hs'
    refine ⟨hP io gs (fun a m => (hio a m).2.2) k s s' hp stp, vs, pl.at fun o e => stp.ext _ o (fun m => (hio _ m).1 (.head _)) e, ?_⟩
    exact (re.more fun b hb => (List.mem_append.mp hb).elim (fun m => (hn' b m).elim (fun m => .inl (List.mem_append_left _ m)) .inr) fun m => .inl (List.mem_append_right _ m)).extX (stp.ext.mono fun a m => List.mem_append_left _ (hs' a m))
  · rintro io k d s v Kb E' hd hio okL stL ⟨hp, vs, pl, re⟩ stp rv pr kb
    have newF : ∀ a ∈ io ++ compNew sc s₁.heap.objs.size, s₀.heap.get? a = none := fun a m => (List.mem_append.mp m).elim (fun m => (hio a m).2.2) fun m => none_of_ext B.pure1 (B.news a m)
    have lenk : vs.toArray.size ≤ sizeLine := by rw [List.size_toArray, re.length]; exact hRl k
    refine wpAny_mono (turn io s₁.heap.objs.size k d s v Kb (fun x s₄ => wpAny c.M A (call (.builtin "list.append") [.ref s₁.heap.objs.size, x]) (fun _ s₅ => Kb s₅) E' s₄) E' hd newF okL stL hp (unseen io hio s stp) rv (fun s' hR st' p' hP' => ?_) fun x xv s' hR st' p' hP' rx => ?_)
      (fun _ s₂ h₂ => wpAny_mono h₂ (fun b s₃ h₃ => ?_) fun _ _ h => h) fun _ _ h => h
    · refine kb s' st' (p'.mono (fun a m => .tail _ m) (by simp)) ⟨hP', vs, pl.at fun o e => p'.ext _ o nZ e, ?_⟩
      rw [hR]
      exact re.extX (p'.ext.mono fun a m => List.mem_append_right _ (Zsub a m))
    · refine wpAny_list_append_plain (pl.at fun o e => p'.ext _ o nZ e) (fun h' pl' hs' => ?_) lenk
      have q : Step [s₁.heap.objs.size] [] s' { s' with heap := h' } := Step.but (tk := s'.toks) hs' (by simp)
      have subN : ∀ a ∈ [s₁.heap.objs.size], a ∈ io ++ (compCx c sc cl fr s₁.heap.objs.size (ds0 c sc is)).X := fun a m => by
        obtain rfl := mem1 m
        exact List.mem_append_right _ (.head _)
      refine kb _ (st'.step q subN (fun a m z => ?_) (fun a o e z => ?_) ?_) ((p'.mono (fun a m => .tail _ m) (by simp)).trans (q.mono (fun a m => by obtain rfl := mem1 m; exact .head _) (by simp))) ⟨?_, vs ++ [xv], by simpa using pl', ?_⟩
      · obtain rfl := mem1 z
        have m' := List.mem_cons.mp m
        rcases m' with e | m'
        · exact Nat.ne_of_lt (Nat.lt_succ_self _) e
        · have : s₁.heap.objs.size ∈ (scopeVs (s₁.heap.objs.size + 2) sc.names ++ fr).filterMap (·.2) := m'
          rw [List.filterMap_append] at this
          rcases List.mem_append.mp this with z | z
          · obtain ⟨⟨x', o⟩, hx, e⟩ := List.mem_filterMap.mp z
            simp only at e; subst e
            exact absurd (scopeVs_ge hx) (Nat.not_le.mpr (Nat.lt_add_of_pos_right (by decide)))
          · obtain ⟨⟨x', o⟩, hx, e⟩ := List.mem_filterMap.mp z
            simp only at e; subst e
            exact B.nX _ (.head _) (ok.own _ (H.own hx))
      · obtain rfl := mem1 z
        have e' : c.h₀.get? s₁.heap.objs.size = some o := e
        have := st.old _ _ e'
        rw [none_of_ext B.pure1 (B.news _ (.head _))] at this; cases this
      · obtain ⟨m, g⟩ := pl'
        exact Low.cons g Low.nil
      · exact hP [s₁.heap.objs.size] [] (fun a m => by obtain rfl := mem1 m; exact none_of_ext B.pure1 (B.news _ (.head _))) _ _ _ hP' q
      · rw [hR]
        exact RepL.append ((re.extX (p'.ext.mono fun a m => List.mem_append_right _ (Zsub a m))).extX (q.ext.mono subN)) (.cons (rx.extX (q.ext.mono subN)) .nil)
    · cases b with
      | false => exact h₃
      | true =>
        simp only [if_true] at h₃ ⊢
        unfold emit1
        exact wpAny_bind (wpAny_bind (wpAny_mono h₃ (fun x s₄ h₄ => wpAny_bind (wpAny_mono h₄ (fun _ s₅ h₅ => wpAny_pure (wpAny_pure ⟨rfl, h₅⟩)) fun _ _ h => h)) fun _ _ h => h))
  · rintro io s' hio st' ⟨hp, vs, pl, re⟩ stp
    exact comp_end B hio ok st hY hYo st' ⟨vs, pl, re⟩ stp fun v s'' p'' st'' q'' r'' => k v s'' p'' st'' (hP [s₁.heap.objs.size + 1] [] (fun a m => by obtain rfl := mem1 m; exact none_of_ext B.pure1 (B.news _ (.tail _ (.head _)))) _ _ _ hp q'') r''
end
end Mine
end
section
open PySem PySem.W PyProof.Rows
set_option Elab.async false
set_option linter.unusedVariables false
namespace Mine

/-- the second list knows all that the first knows -/
noncomputable def Fits : List (Option D) → List (Option D) → Prop
  | [], [] => True
  | none :: r, _ :: r' => Fits r r'
  | some d :: r, x :: r' => x = some d ∧ Fits r r'
  | _, _ => False
theorem Fits.get : ∀ {l l' : List (Option D)}, Fits l l' → ∀ (i : Nat) d, l[i]? = some (some d) → l'[i]? = some (some d)
  | [], [], _, i, d, e => by simp at e
  | none :: r, _ :: r', h, i, d, e => by
    cases i with
    | zero => simp at e
    | succ i => simp at e ⊢; exact Fits.get (show Fits r r' from h) i d e
  | some d' :: r, x :: r', h, i, d, e => by
    obtain ⟨rfl, h⟩ := h
    cases i with
    | zero => simpa using e
    | succ i => simp at e ⊢; exact Fits.get h i d e
theorem Fits.len : ∀ {l l' : List (Option D)}, Fits l l' → l.length = l'.length
  | [], [], _ => rfl
  | none :: r, _ :: r', h => by simp [Fits.len (show Fits r _ from h)]
  | some d' :: r, x :: r', h => by simp [Fits.len (l := r) h.2]
theorem St.fit {c : Cx} {s : Shared} {ds ds' : List (Option D)} (st : St (c.wd ds') s) (h : Fits ds ds') : St (c.wd ds) s :=
  St.forget (c := c.wd ds') (ds := ds) st h.len h.get

theorem frOk_of {sc : Scope} : ∀ {fr : List (Str × Option Addr)}, (fr.all fun p => p.2.isSome && sc.names.lookup p.1 == some .free) = true → FrOk sc fr
  | [], _ => trivial
  | (x, none) :: r, h => by simp at h
  | (x, some a) :: r, h => by
    rw [List.all_cons, Bool.and_eq_true] at h
    exact ⟨by simpa using h.1, frOk_of h.2⟩
theorem CompOk.of {c : Cx} {sc : Scope} {cl : List (Str × Addr)} (is : List Nat) (hcl : closOf c.env.cells sc.names [] = some cl := by rfl) (hk : sc.kind = .function := by rfl) (nd : (sc.names.map (·.1)).Nodup := by decide)
    (hfr : ((is.filterMap fun i => c.vs[i]?).all fun p => p.2.isSome && sc.names.lookup p.1 == some .free) = true := by rfl) (his : (is.all fun i => (c.vs[i]?).isSome) = true := by rfl) (isnd : is.Nodup := by decide) :
    CompOk c sc cl is (is.filterMap fun i => c.vs[i]?) := by
  refine ⟨hcl, hk, nd, frOk_of hfr, ?_, isnd⟩
  clear hfr isnd
  induction is with
  | nil => rfl
  | cons i r ih =>
    rw [List.all_cons, Bool.and_eq_true] at his
    obtain ⟨p, hp⟩ := Option.isSome_iff_exists.mp his.1
    rw [List.map_cons, List.filterMap_cons, hp, List.map_cons, ih his.2]

/-- a turn of a comprehension that leaves all as it was -/
noncomputable def CTurn (n : Nat) (c : Cx) (tg : Expr) (ifs : List Expr) (elt : Expr) (d : D) (r : Option D) : Prop :=
  ∃ ds', Asg n c tg d ds' ∧ Fits c.ds ds' ∧ match r with
    | none => Tvs n (c.wd ds') ifs false
    | some e => Tvs n (c.wd ds') ifs true ∧ Ev n (c.wd ds') elt e

section
variable {n : Nat} {c : Cx} {elt tg iter : Expr} {ifs : List Expr} {sc : Scope} {pos : Pos} {cl : List (Str × Addr)} {is : List Nat} {fr : List (Str × Option Addr)}

theorem CTurn.run {d : D} {r : Option D} {A : Around} {s : Shared} {v : Value} (h : CTurn n c tg ifs elt d r) (ok : Ok c) (rm : Rm n A) (st : St c s) (rv : Rep c.X s.heap d v) {Kn : Shared → Prop} {Ke : Value → Shared → Prop} {E : Value → Shared → Prop}
    (kn : ∀ s', r = none → St c s' → Step c.wr [] s s' → Kn s') (ke : ∀ x v s', r = some x → St c s' → Step c.wr [] s s' → Rep c.X s'.heap x v → Ke v s') :
    wpAny c.M A (assign tg c.env v) (fun _ s₂ => wpAny c.M A (testsM ifs c.env) (fun ok s₃ => if ok = true then wpAny c.M A (eval elt c.env) Ke E s₃ else Kn s₃) E s₂) E s := by
  obtain ⟨ds', ha, hf, ht⟩ := h
  refine ha ok A s v _ E rm st rv fun s₁ p₁ st₁ => ?_
  cases r with
  | none =>
    refine ht (ok.wd _) A s₁ _ E rm st₁ fun s₂ p₂ => ?_
    simp only [Bool.false_eq_true, if_false]
    exact kn s₂ rfl (St.fit (st₁.pure p₂) hf) (p₁.trans p₂.up)
  | some x =>
    refine ht.1 (ok.wd _) A s₁ _ E rm st₁ fun s₂ p₂ => ?_
    simp only [if_true]
    refine ht.2 (ok.wd _) A s₂ _ E rm (st₁.pure p₂) fun v s₃ p₃ r₃ => ?_
    exact ke x v s₃ rfl (St.fit ((st₁.pure p₂).pure p₃) hf) ((p₁.trans p₂.up).trans p₃.up) r₃

theorem Ev.lc {items : List D} (F : D → Option D) (H : CompOk c sc cl is fr) (hn : 4 ≤ n) (hi : EvI n c iter tg items) (hsz : items.length ≤ sizeLine)
    (turn : ∀ (io : List Addr) (N : Addr) (d : D), d ∈ items → CTurn n ((compCx c sc cl fr N (ds0 c sc is)).lay io) tg ifs elt d (F d))
    (hs : ∀ x, foldedSetIterable iter c.env x = pure x := by intro _; rfl) :
    Ev n c (.ListComp elt [⟨tg, iter, ifs, 0⟩] sc pos) (.lst (items.filterMap F)) := by
  intro ok A s Q E rm st k
  refine comp1 (n := n) H hn items (fun k => (items.take k).filterMap F) [] (fun _ _ => True) ok rm st hi rfl (fun k => ?_) (by simp) (by simp) (fun _ _ => trivial) (fun _ _ _ _ _ _ _ _ => trivial) ?_ ?_ hs
  · refine Nat.le_trans (List.length_filterMap_le _ _) (Nat.le_trans ?_ hsz)
    rw [List.length_take]; exact Nat.min_le_right _ _
  · intro io N k d s' v Kn Ke E' hd hio okc stc _ _ rv kn ke
    have tk : (items.take (k + 1)).filterMap F = (items.take k).filterMap F ++ (F d).toList := by
      rw [List.take_add_one, hd, List.filterMap_append]
      congr 1
    refine (turn io N d (List.mem_of_getElem? hd)).run okc rm stc rv (fun s₂ e st₂ p₂ => ?_) fun x v s₂ e st₂ p₂ r₂ => ?_
    · exact kn s₂ (by show (items.take (k + 1)).filterMap F = _; rw [tk, e]; simp) st₂ (p₂.mono (fun a m => List.mem_append_left _ m) (by simp)) trivial
    · exact ke x v s₂ (by show (items.take (k + 1)).filterMap F = _; rw [tk, e]; rfl) st₂ (p₂.mono (fun a m => List.mem_append_left _ m) (by simp)) trivial r₂
  · intro v s' p st' _ r
    have r' : Rep c.X s'.heap (.lst ((items.take items.length).filterMap F)) v := r
    rw [List.take_length] at r'
    exact k v s' p r'
theorem CTurn.keep {n : Nat} {c : Cx} {tg t elt : Expr} {d e : D} {ds' : List (Option D)} {b : Bool} (ha : Asg n c tg d ds') (ht : Tv n (c.wd ds') t b) (he : b = true → Ev n (c.wd ds') elt e)
    (hf : Fits c.ds ds' := by repeat' first | exact trivial | refine And.intro rfl ?_) : CTurn n c tg [t] elt d (if b then some e else none) := by
  refine ⟨ds', ha, hf, ?_⟩
  cases b with
  | false => exact .one ht
  | true => exact ⟨.one ht, he rfl⟩
theorem CTurn.all {n : Nat} {c : Cx} {tg elt : Expr} {d e : D} {ds' : List (Option D)} (ha : Asg n c tg d ds') (he : Ev n (c.wd ds') elt e)
    (hf : Fits c.ds ds' := by repeat' first | exact trivial | refine And.intro rfl ?_) : CTurn n c tg [] elt d (some e) := ⟨ds', ha, hf, .nil, he⟩
end
end Mine
end
section
open PySem PySem.W PyProof.Rows
set_option Elab.async false
set_option linter.unusedVariables false
namespace Mine
section
variable {w : World} {A : Around} {E : Value → Shared → Prop} {s : Shared}
theorem draw_list {it t : Addr} {items : Array Value} (hne : t ≠ it) : ∀ (n i : Nat) (s : Shared) (Q : List Value → Shared → Prop), s.heap.IsListIter it t i → s.heap.IsList t items → i + n ≤ items.size →
    (∀ h', h'.IsListIter it t (i + n) → Heap.SameBut it s.heap h' → Q ((items.toList.drop i).take n) { s with heap := h' }) → wpAny (model prog w) A (draw (.ref it) n) Q E s
  | 0, i, s, Q, hit, _, _, hQ => by
    show wpAny _ _ (pure []) Q E s
    exact wpAny_pure (by simpa using hQ s.heap hit (Heap.SameBut.refl ..))
  | n + 1, i, s, Q, hit, ht, hle, hQ => by
    have hlt : i < items.size := by lia
    show wpAny _ _ (pyNext (.ref it) >>= _) Q E s
    refine wpAny_bind (wpAny_pyNext_list_item hit ht (x := items[i]) (by simp [hlt]) fun h₁ hit₁ hs₁ => ?_)
    refine wpAny_bind (wpAny_holding (draw_list hne n (i + 1) _ _ hit₁ (ht.extBut hs₁.extBut hne) (by lia) fun h₂ hit₂ hs₂ => wpAny_pure ?_))
    have hd : items.toList.drop i = items[i] :: items.toList.drop (i + 1) := by simp [List.drop_eq_getElem_cons, hlt]
    have := hQ h₂ (by rw [show i + (n + 1) = i + 1 + n by lia]; exact hit₂) (hs₁.trans hs₂)
    rw [hd, List.take_succ_cons] at this
    exact this
theorem unpackItems_list {t : Addr} {items : Array Value} {Q : List Value → Shared → Prop} (hh : A.handled = none) (ht : s.heap.IsList t items)
    (hQ : ∀ h', Heap.ExtBut s.heap.objs.size s.heap h' → Q items.toList { s with heap := h' }) : wpAny (model prog w) A (unpackItems (.ref t) items.size none) Q E s := by
  have hlt : t ≠ s.heap.objs.size := by obtain ⟨o, ho, _⟩ := ht; exact Nat.ne_of_lt (Heap.lt_size ho)
  unfold unpackItems
  refine wpAny_bind ?_
  · unfold notIterableAtAll
    refine wpAny_bind (wpAny_specialOf ht.typeIs slot_list_iter.lookup ?_)
    refine wpAny_pure ?_
    simp only [Bool.false_eq_true, if_false]
    refine wpAny_bind (wpAny_holding (wpAny_pyIter_list ht ?_))
    refine wpAny_bind (wpAny_holding (draw_list hlt items.size 0 _ _ ⟨_, Heap.get?_push_size _ rfl, rfl, rfl⟩ (ht.push _) (by lia) fun h₁ hit₁ hs₁ => ?_))
    have hall : List.take items.size (List.drop 0 items.toList) = items.toList := by
      rw [List.drop_zero]; exact List.take_of_length_le (by simp)
    rw [hall]
    rw [if_neg (by simp)]
    have ht₁ : h₁.IsList t items := (ht.push _).extBut hs₁.extBut hlt
    refine wpAny_bind (wpAny_holding (wpAny_pyNext_list_end hh hit₁ ht₁ (by simp) fun h₂ he₂ => ?_))
    simp only [Option.isSome_none, Bool.false_eq_true, if_false]
    refine wpAny_pure (hQ h₂ fun b o hb e => he₂ b o hb (hs₁.extBut b o hb (Heap.get?_push_of_some _ e)))
theorem assign_Tuple_list {env : Env} {elts : List Expr} {x1} {pos : Pos} {t : Addr} {items : Array Value} {Q : Unit → Shared → Prop} (hh : A.handled = none) (ht : s.heap.IsList t items)
    (hn : (assignEach elts env).length = items.size) (hstar : (assignEach elts env).findIdx? (·.1) = none)
    (h : ∀ h', Heap.ExtBut s.heap.objs.size s.heap h' → wpAny (model prog w) A (assignInOrder ((assignEach elts env).map (·.2)) items.toList) Q E { s with heap := h' }) :
    wpAny (model prog w) A (assign (.Tuple elts x1 pos) env (.ref t)) Q E s := by
  rw [assign_Tuple]
  refine wpAny_bind (wpAny_standAt ?_)
  unfold unpack
  rw [hn, hstar]
  exact wpAny_bind (wpAny_holding (unpackItems_list hh ht h))
end
section
variable {n : Nat} {c : Cx} {p : Pos}
theorem Asg.list {tgs : List Expr} {kk : Nat} {ds : List D} {ds' : List (Option D)} (h : AsgL n c tgs ds ds') (hl : (assignEach tgs c.env).length = ds.length := by rfl) (hs : (assignEach tgs c.env).findIdx? (·.1) = none := by rfl) : Asg n c (.Tuple tgs kk p) (.lst ds) ds' := by
  intro ok A s v Q E rm st r k
  obtain ⟨a, vs, rfl, na, ia, ra⟩ := r.lst_inv
  refine assign_Tuple_list rm.handled ia (by rw [hl]; simp [ra.length]) hs fun h' hx => ?_
  have fr := get_size s.heap
  have pp : Pure s { s with heap := h' } := .heap fun b o _ g => hx b o (fun q => by rw [q, fr] at g; cases g) g
  exact h ok A _ vs _ _ rm (st.pure pp) (ra.ext pp.pure) fun s₂ p₂ st₂ => k s₂ ((Step.up pp).trans p₂) st₂
end
end Mine
end
section
open PySem PySem.W PyProof.Rows
set_option Elab.async false
set_option linter.unusedVariables false
namespace Mine
/-! comparing lists of like data -/
structure Like {α : Type} [BEq α] (f : α → D) (k : Nat) : Prop where
  eqv : ∀ a b, (f a).eqv (f b) = (a == b)
  depth : ∀ a, (f a).toP.depth ≤ k
theorem eqvAll_map {α : Type} [BEq α] {f : α → D} (h : ∀ a b, (f a).eqv (f b) = (a == b)) : ∀ (l m : List α), PyData.eqvAll (D.toPs (l.map f)) (D.toPs (m.map f)) = (l == m)
  | [], [] => by simp [D.toPs, PyData.eqvAll]
  | a :: l, [] => by simp [D.toPs, PyData.eqvAll]
  | [], b :: m => by simp [D.toPs, PyData.eqvAll]
  | a :: l, b :: m => by
    rw [List.map_cons, List.map_cons, D.toPs, D.toPs, PyData.eqvAll, eqvAll_map h l m, show PyData.eqv (f a).toP (f b).toP = (a == b) from h a b]
    rfl
theorem depthAll_map {α : Type} {f : α → D} {k : Nat} (h : ∀ a, (f a).toP.depth ≤ k) : ∀ (l : List α), PyData.depthAll (D.toPs (l.map f)) ≤ k
  | [] => by simp [D.toPs, PyData.depthAll]
  | a :: l => by
    rw [List.map_cons, D.toPs, PyData.depthAll]
    exact Nat.max_le.mpr ⟨h a, depthAll_map h l⟩
theorem Like.lst {α : Type} [BEq α] {f : α → D} {k : Nat} (h : Like f k) : Like (fun l : List α => D.lst (l.map f)) (k + 1) :=
  ⟨fun l m => by unfold D.eqv; rw [D.toP, D.toP, PyData.eqv]; exact eqvAll_map h.eqv l m, fun l => by rw [D.toP, PyData.depth]; exact Nat.succ_le_succ (depthAll_map h.depth l)⟩
theorem Like.int : Like D.int 0 := ⟨fun a b => by unfold D.eqv; rw [D.toP, D.toP, PyData.eqv], fun a => by rw [D.toP, PyData.depth]; exact Nat.le_refl _⟩
theorem Like.nat : Like (fun n : Nat => D.int n) 0 := ⟨fun a b => by unfold D.eqv; rw [D.toP, D.toP, PyData.eqv]; rw [Bool.eq_iff_iff]; simp; exact Int.ofNat_inj, fun a => by rw [D.toP, PyData.depth]; exact Nat.le_refl _⟩
theorem Like.str : Like D.str 0 := ⟨fun a b => by unfold D.eqv; rw [D.toP, D.toP, PyData.eqv]; rw [Bool.eq_iff_iff]; simp, fun a => by rw [D.toP, PyData.depth]; exact Nat.le_refl _⟩
theorem plains_map {α : Type} {f : α → D} {l : List α} (h : ∀ a ∈ l, (f a).plain = true) : D.plains (l.map f) = true := by
  induction l with
  | nil => rw [List.map_nil, D.plains]
  | cons a l ih => rw [List.map_cons, D.plains, h a (.head _), ih fun b m => h b (.tail _ m)]; rfl
theorem plain_lst {α : Type} {f : α → D} {l : List α} (h : ∀ a ∈ l, (f a).plain = true) : (D.lst (l.map f)).plain = true := by
  rw [D.plain]; exact plains_map h
theorem plain_int {i : Int} : (D.int i).plain = true := by rw [D.plain]
/-- texts of signs -/
noncomputable def Signs (l : List Nat) : Prop := l.all (· < 128) = true
theorem plain_str {l : List Nat} (h : Signs l) : (D.str l).plain = true := by
  rw [D.plain, List.all_eq_true]
  intro x m
  have := List.all_eq_true.mp h x m
  simp at this ⊢
  lia
section
variable {n : Nat} {w : World}
theorem op_eqL {α : Type} [BEq α] {f : α → D} {k : Nat} (L : Like f k) {a b : α} (h1 : (f a).plain = true) (h2 : (f b).plain = true) (hk : k ≤ 60 * n) : Op2 n w (compareOp .Eq) (f a) (f b) (.bool (a == b)) := by
  have := op_eq (n := n) (w := w) h1 h2 (by have := L.depth a; lia)
  rwa [L.eqv] at this
theorem op_neL {α : Type} [BEq α] {f : α → D} {k : Nat} (L : Like f k) {a b : α} (h1 : (f a).plain = true) (h2 : (f b).plain = true) (hk : k ≤ 60 * n) : Op2 n w (compareOp .NotEq) (f a) (f b) (.bool (a != b)) := by
  have := op_ne (n := n) (w := w) h1 h2 (by have := L.depth a; omega)
  rwa [L.eqv] at this
/-- unlike the empty list -/
theorem op_neNil {l : List D} (h1 : (D.lst l).plain = true) (hn : 1 ≤ n) : Op2 n w (compareOp .NotEq) (.lst l) (.lst []) (.bool (!l.isEmpty)) := by
  have := op_ne (n := n) (w := w) (d₂ := .lst []) h1 (by rw [D.plain, D.plains]) (by rw [D.toP, D.toP, PyData.depth, PyData.depth, D.toPs, PyData.depthAll]; lia)
  have e : (D.lst l).eqv (.lst []) = l.isEmpty := by
    unfold D.eqv
    rw [D.toP, D.toP, PyData.eqv, D.toPs]
    cases l with
    | nil => rw [D.toPs, PyData.eqvAll]; rfl
    | cons a l => rw [D.toPs, PyData.eqvAll]; rfl
  rwa [e] at this
theorem op_eqNil {l : List D} (h1 : (D.lst l).plain = true) (hn : 1 ≤ n) : Op2 n w (compareOp .Eq) (.lst l) (.lst []) (.bool l.isEmpty) := by
  have := op_eq (n := n) (w := w) (d₂ := .lst []) h1 (by rw [D.plain, D.plains]) (by rw [D.toP, D.toP, PyData.depth, PyData.depth, D.toPs, PyData.depthAll]; omega)
  have e : (D.lst l).eqv (.lst []) = l.isEmpty := by
    unfold D.eqv
    rw [D.toP, D.toP, PyData.eqv, D.toPs]
    cases l with
    | nil => rw [D.toPs, PyData.eqvAll]; rfl
    | cons a l => rw [D.toPs, PyData.eqvAll]; rfl
  rwa [e] at this
end
end Mine
end
section
open PySem PySem.W PyProof.Rows
set_option Elab.async false
set_option linter.unusedVariables false
namespace Mine
theorem clp_nat (a d n : Nat) : clp (some (a : Int)) d n = min a n := by
  show (max 0 (min (if (a : Int) < 0 then (a : Int) + n else a) (n : Int))).toNat = _
  rw [if_neg (by omega)]; omega
theorem sl_mid {α : Type} (a b : Nat) (l : List α) : sl (some (a : Int)) (some (b : Int)) l = (l.take b).drop a := by
  unfold sl
  rw [clp_nat, clp_nat]
  rw [List.take_eq_take_iff.mpr (show min (min b l.length) l.length = min b l.length by lia)]
  by_cases h : a ≤ l.length
  · rw [Nat.min_eq_left h]
  · rw [List.drop_eq_nil_of_le (by rw [List.length_take]; lia), List.drop_eq_nil_of_le (by rw [List.length_take]; lia)]
theorem sl_from {α : Type} (a : Nat) (l : List α) : sl (some (a : Int)) none l = l.drop a := by
  unfold sl
  rw [clp_nat, show clp none l.length l.length = l.length from rfl, List.take_length]
  by_cases h : a ≤ l.length
  · rw [Nat.min_eq_left h]
  · rw [List.drop_eq_nil_of_le (by lia), List.drop_eq_nil_of_le (by lia)]
theorem sl_to {α : Type} (b : Nat) (l : List α) : sl none (some (b : Int)) l = l.take b := by
  unfold sl
  rw [clp_nat, show clp none 0 l.length = 0 from rfl, List.drop_zero]
  exact List.take_eq_take_iff.mpr (by omega)
theorem sl_init {α : Type} (l : List α) : sl none (some (-1 : Int)) l = l.dropLast := by
  unfold sl
  rw [show clp none 0 l.length = 0 from rfl, List.drop_zero, List.dropLast_eq_take]
  refine List.take_eq_take_iff.mpr ?_
  show min (max 0 (min (if (-1 : Int) < 0 then (-1 : Int) + l.length else -1) (l.length : Int))).toNat l.length = _
  rw [if_pos (by decide)]; lia
theorem two_of {α : Type} [Inhabited α] (l : List α) (k : Nat) (h : k + 1 < l.length) (d : α) : (l.take (k + 2)).drop k = [l.getD k d, l.getD (k + 1) d] := by
  have h1 : (l.take (k + 2)).drop k = (l.drop k).take 2 := by rw [List.drop_take]; congr 1; lia
  have e1 : l.drop k = l[k] :: l.drop (k + 1) := List.drop_eq_getElem_cons (by lia)
  have e2 : l.drop (k + 1) = l[k + 1] :: l.drop (k + 1 + 1) := List.drop_eq_getElem_cons h
  rw [h1, e1, e2, List.getD_eq_getElem?_getD, List.getD_eq_getElem?_getD, List.getElem?_eq_getElem h, List.getElem?_eq_getElem (show k < l.length by lia)]
  rfl
theorem filterMap_sub (f : Nat → D) (l : List Nat) (p : Nat → Bool) (F : D → Option D) (hF : ∀ x ∈ l, F (f x) = if p x then some (f x) else none) : (l.map f).filterMap F = (l.filter p).map f := by
  induction l with
  | nil => rfl
  | cons x l ih =>
    rw [List.map_cons, List.filterMap_cons, hF x (.head _), ih fun y m => hF y (.tail _ m), List.filter_cons]
    cases p x <;> simp
theorem any_filter {α β : Type} (f : α → β) (p : α → Bool) (l : List α) : (!((l.filter p).map f).isEmpty) = l.any p := by
  induction l with
  | nil => rfl
  | cons x l ih =>
    rw [List.filter_cons, List.any_cons, ← ih]
    cases p x <;> simp
section
variable {n : Nat} {c : Cx} {e : Expr} {d d' : D} {b b' : Bool}
theorem Ev.cast (h : Ev n c e d') (q : d' = d) : Ev n c e d := q ▸ h
theorem Tv.cast (h : Tv n c e b') (q : b' = b) : Tv n c e b := q ▸ h
end
end Mine
end
section
open PySem PySem.W PyProof.Rows
set_option Elab.async false
set_option linter.unusedVariables false
namespace Mine
section
variable {n : Nat} {c : Cx} {A : Around} {s : Shared} {Q : Flow → Shared → Prop} {E : Value → Shared → Prop} {rest : List Stmt} {e : Expr} {pos : Pos} {w' : World} {env' : Env}
theorem sSwap2 {x y : Str} {px py tp : Pos} {k : Nat} {d₁ d₂ : D} {ds' : List (Option D)} (i j : Nat) {sl sl'} (ok : Ok c) (rm : Rm n A) (st : St c s) (he : Ev n c e (.tup [d₁, d₂]))
    (kk : ∀ s', Step c.wr [] s s' → St (c.wd ds') s' → wpAny (model prog w') A (execs rest env') Q E s') (hi : c.vs[i]? = some (x, sl) := by rfl) (hj : c.vs[j]? = some (y, sl') := by rfl) (hd : (c.ds.set j (some d₂)).set i (some d₁) = ds' := by rfl)
    (hk : sl = none ∨ c.env.kindOf x = some .cell := by first | exact .inl rfl | exact .inr rfl) (hle : ∀ a, sl = some a → c.env.locals ≤ a := by intro a h; cases h <;> repeat (first | exact Nat.le_refl _ | apply Nat.le_succ_of_le))
    (hk' : sl' = none ∨ c.env.kindOf y = some .cell := by first | exact .inl rfl | exact .inr rfl) (hle' : ∀ a, sl' = some a → c.env.locals ≤ a := by intro a h; cases h <;> repeat (first | exact Nat.le_refl _ | apply Nat.le_succ_of_le))
    (hs : swapsWithSole [.Tuple [.Name x px, .Name y py] k tp] e pos.line c.env = pure false := by rfl)
    (hw : swappedStores [.Tuple [.Name x px, .Name y py] k tp] e c.env = pure (some [x, y]) := by rfl) (he' : env' = c.env := by rfl) (hw' : w' = c.w := by rfl) :
    wpAny (model prog w') A (execs (.Assign [.Tuple [.Name x px, .Name y py] k tp] e pos :: rest) env') Q E s := by
  subst he' hw'
  refine wpAny_execs_cons (Assign_Tuple_swapped (names := [x, y]) (he ok A s _ _ rm st fun v s₁ p₁ r₁ => ?_) hs hw)
  obtain ⟨a, vs, rfl, na, ia, ra⟩ := r₁.tup_inv
  have hlen : vs.toArray.size = 2 := by simp [ra.length]
  have go := unpackItems_tuple (prog := prog) (w := c.w) (A := A) (E := E) (Q := fun items s₂ => wpAny c.M A (assignInOrder ([x, y].reverse.map fun n => bindName c.env n) items.reverse) (fun _ s' => wpAny c.M A (execs rest c.env) Q E s') E s₂) rm.handled ia fun h' hx => ?_
  · rw [hlen] at go; exact go
  have fr := get_size s₁.heap
  have pp : Pure s₁ { s₁ with heap := h' } := .heap fun b o _ g => hx b o (fun q => by rw [q, fr] at g; cases g) g
  have ra' := ra.ext pp.pure
  rw [RepL.cons_iff] at ra'; obtain ⟨v₁, r₁, e1, a₁, b₁⟩ := ra'
  rw [RepL.cons_iff] at b₁; obtain ⟨v₂, r₂, rfl, a₂, b₂⟩ := b₁
  rw [RepL.nil_iff] at b₂; subst b₂
  subst e1
  have st₂ := (st.pure p₁).pure pp
  show wpAny c.M A (assignInOrder [bindName c.env y, bindName c.env x] [v₂, v₁]) _ E _
  refine wpAny_assignInOrder_more (wpAny_bindName (store j hj ok st₂ a₂ hk' hle' fun s₃ p₃ st₃ => ?_))
  refine wpAny_assignInOrder_more (wpAny_bindName (store (c := c.set j d₂) i hi (ok.wd _) st₃ (a₁.extX (p₃.ext.mono ok.wr)) hk hle fun s₄ p₄ st₄ => ?_))
  refine wpAny_assignInOrder_none ?_
  subst hd
  exact kk s₄ ((Step.up (p₁.trans pp)).trans (p₃.trans p₄)) st₄
end
end Mine
end
section
open PySem PySem.W PyProof.Rows
set_option Elab.async false
set_option linter.unusedVariables false
set_option pp.deepTerms false
set_option pp.deepTerms.threshold 4
namespace Mine

/-- TupleComp.compare -/
noncomputable def cmpv (l r : List Int) : List (Nat × Int) → Int
  | [] => 0
  | (i, dir) :: ks => if l.getD i 0 < r.getD i 0 then -dir else if l.getD i 0 > r.getD i 0 then dir else cmpv l r ks
noncomputable def keysD (ks : List (Nat × Int)) : List D := ks.map fun k => .tup [.int k.1, .int k.2]
noncomputable abbrev judgeD (ks : List (Nat × Int)) : D := .obj 38 (Str.ofString "comp_select_list") (.lst (keysD ks))
noncomputable abbrev pairD (l : List Int) : D := .tup (l.map .int)

set_option maxRecDepth 100000 in
theorem compare_fn {w : World} {h₀ : Heap} (B : Base w h₀) {n : Nat} (hn : 4 ≤ n) (ks : List (Nat × Int)) (l r : List Int) (hl : l.length = 2) (hr : r.length = 2) (hk : ∀ k ∈ ks, k.1 < 2) :
    Fn (n + 1) w h₀ (.ref 35) [judgeD ks, pairD l, pairD r] (.int (cmpv l r ks)) := by
  refine fn_enter (o := _) (fd := _) (body := _) (params := [Str.ofString "self", Str.ofString "left", Str.ofString "right"]) B rfl rfl rfl rfl rfl rfl rfl (fun vals h => ?_) (by decide) (by decide) rfl (by decide) rfl rfl rfl rfl ?_
  · exact bindv3 h fun a b c => rfl
  · intro X A s L Q E ok rm st k
    have ks' : (keysD ks).length = ks.length := by simp [keysD]
    have getk : ∀ (k : Nat) d, (keysD ks)[k]? = some d → ∃ i dir, ks[k]? = some (i, dir) ∧ d = .tup [.int i, .int dir] := fun k d e => by
      unfold keysD at e
      rw [List.getElem?_map] at e
      cases q : ks[k]? with
      | none => rw [q] at e; cases e
      | some p => rw [q] at e; cases e; exact ⟨p.1, p.2, rfl, rfl⟩
    refine sFor (n := n) (keysD ks) (fun _ => [some (judgeD ks), some (pairD l), some (pairD r), none, none, none, none]) _ (fun k _ => cmpv l r ks = cmpv l r (ks.drop k)) (fun v s' => Rep X s'.heap (.int (cmpv l r ks)) v)
      ok rm hn st (EvI.lst (Ev.field (Ev.name 0) (fun _ => rfl) (fun _ => rfl) (fun _ => rfl) (fun _ => rfl))) rfl (fun _ h => h) ok.wr (fun _ _ => rfl) (fun _ _ _ _ _ _ h _ => h) ?_ ?_ ?_
    · intro io k d A s v Q E hd hio ok rm st hP _ rv hk1 hk2
      obtain ⟨i, dir, e1, rfl⟩ := getk k d hd
      have hi : i < 2 := hk _ (List.mem_of_getElem? e1)
      have hdrop : ks.drop k = (i, dir) :: ks.drop (k + 1) := by
        obtain ⟨h1, h2⟩ := List.getElem?_eq_some_iff.mp e1
        rw [List.drop_eq_getElem_cons h1, h2]
      have gl : ∀ (q : List Int), q.length = 2 → (q.map D.int)[(i : Int).toNat]? = some (.int (q.getD i 0)) := fun q hq => by
        rw [List.getElem?_map, Int.toNat_natCast, List.getD_eq_getElem?_getD, List.getElem?_eq_getElem (by lia)]; rfl
      refine Asg.tuple (.cons (.name 3) (.cons (.name 4) .nil)) rfl rfl ok A s v _ E rm st rv fun s₁ p₁ st₁ => ?_
      refine sAssign 5 (ok.wd _) rm st₁ (Ev.atT (Ev.name 1) (Ev.name 3) (by lia) (by simp [hl]) (gl l hl)) fun s₂ p₂ st₂ => ?_
      refine sAssign 6 (ok.wd _) rm st₂ (Ev.atT (Ev.name 2) (Ev.name 3) (by lia) (by simp [hr]) (gl r hr)) fun s₃ p₃ st₃ => ?_
      have p := (p₁.trans p₂).trans p₃
      refine sIf (ok.wd _) rm st₃ (Tv.cmp (Ev.name 5) (Ev.name 6) op_lt) (fun hb s₄ p₄ st₄ => ?_) fun hb s₄ p₄ st₄ => ?_
      · refine sReturn (ok.wd _) rm st₄ (Ev.un (Ev.name 4) op_neg) fun v s₅ p₅ r₅ => hk2 v s₅ (((p.trans (.up p₄)).trans (.up p₅))) ?_
        have : cmpv l r ks = -dir := by rw [hP, hdrop, cmpv, if_pos (by simpa using hb)]
        rw [this]
        exact r₅.less fun b hb => List.mem_append_right _ (List.mem_append_right _ hb)
      · refine sNil ?_
        refine sIf (ok.wd _) rm st₄ (Tv.cmp (Ev.name 5) (Ev.name 6) op_gt) (fun hc s₅ p₅ st₅ => ?_) fun hc s₅ p₅ st₅ => ?_
        · refine sReturn (ok.wd _) rm st₅ (Ev.name 4) fun v s₆ p₆ r₆ => hk2 v s₆ ((((p.trans (.up p₄)).trans (.up p₅)).trans (.up p₆))) ?_
          have : cmpv l r ks = dir := by rw [hP, hdrop, cmpv, if_neg (by simpa using hb), if_pos (by simpa using hc)]
          rw [this]
          exact r₆.less fun b hb => List.mem_append_right _ (List.mem_append_right _ hb)
        · refine sNil (sNil ?_)
          refine hk1 .next s₅ (.inl rfl) (((p.trans (.up p₄)).trans (.up p₅))) (st₅.forget rfl ?_) ?_
          · intro i d e
            match i, e with
            | 0, e => exact e
            | 1, e => exact e
            | 2, e => exact e
            | 3, e => cases e
            | 4, e => cases e
            | 5, e => cases e
            | 6, e => cases e
          · rw [hP, hdrop, cmpv, if_neg (by simpa using hb), if_neg (by simpa using hc)]
    · intro v s' p r
      exact k v s' (p) r
    · intro s' p st' hP
      refine sReturn (ok.wd _) rm st' Ev.kInt fun v s₂ p₂ r₂ => k v s₂ ((p).trans (.up p₂)) ?_
      have : cmpv l r ks = 0 := by rw [hP, ks', List.drop_length]; rfl
      rw [this]
      exact r₂.less fun b hb => List.mem_append_right _ hb
end Mine
end
section
open PySem PySem.W PyProof.Rows
set_option Elab.async false
set_option linter.unusedVariables false
set_option pp.deepTerms false
set_option pp.deepTerms.threshold 4
namespace Mine

/-- a list of natural numbers -/
noncomputable abbrev natsD (l : List Nat) : D := .lst (l.map fun x : Nat => D.int x)
/-- the matrix of the order -/
noncomputable abbrev ordD (o : Nat → Nat → Int) : D := .lst ((List.range 6).map fun i => .lst ((List.range 6).map fun j => .int (o i j)))
noncomputable def loOf (o : Nat → Nat → Int) (w : List Nat) (k : Nat) : Nat := if o (w.getD k 0) (w.getD (k + 1) 0) < 0 then w.getD k 0 else w.getD (k + 1) 0
noncomputable def hiOf (o : Nat → Nat → Int) (w : List Nat) (k : Nat) : Nat := if o (w.getD k 0) (w.getD (k + 1) 0) < 0 then w.getD (k + 1) 0 else w.getD k 0
/-- _law_free -/
noncomputable def freeB (o : Nat → Nat → Int) (w : List Nat) (k : Nat) : Bool :=
  decide (o (loOf o w k) (hiOf o w k) < 0) && (w.drop (k + 2)).any fun b => decide (o (loOf o w k) b ≤ 0) && decide (o b (hiOf o w k) < 0)

theorem nats_get {l : List Nat} {k : Nat} (h : k < l.length) : (l.map fun x : Nat => D.int x)[pyIdx k (l.map fun x : Nat => D.int x).length]? = some (.int (l.getD k 0 : Nat)) := by
  have : pyIdx k (l.map fun x : Nat => D.int x).length = k := by unfold pyIdx; rw [if_neg (by lia)]; simp
  rw [this, List.getElem?_map, List.getElem?_eq_getElem h, List.getD_eq_getElem?_getD, List.getElem?_eq_getElem h]; rfl
section
variable {n : Nat} {c : Cx} {value slice : Expr} {pos : Pos}
theorem Ev.nats {l : List Nat} {k : Nat} (hv : Ev n c value (natsD l)) (hs : Ev n c slice (.int k)) (h : k < l.length) (hz : l.length ≤ 2 ^ 30)
    (hq : ∀ v i, subscripted slice false v i = operate [v, i] (getItem v i) := by intro _ _; with_unfolding_all rfl) : Ev n c (.Subscript value slice pos) (.int (l.getD k 0 : Nat)) :=
  Ev.at hv hs (by rw [List.length_map]; omega) (by rw [List.length_map]; omega) (by rw [List.length_map]; omega) (nats_get h) hq
theorem Ev.ord {o : Nat → Nat → Int} {v2 s2 : Expr} {p2 : Pos} {i j : Nat} (hv : Ev n c v2 (ordD o)) (hi : Ev n c s2 (.int i)) (hj : Ev n c slice (.int j)) (h1 : i < 6) (h2 : j < 6)
    (hq2 : ∀ v i, subscripted s2 false v i = operate [v, i] (getItem v i) := by intro _ _; with_unfolding_all rfl)
    (hq : ∀ v i, subscripted slice false v i = operate [v, i] (getItem v i) := by intro _ _; with_unfolding_all rfl) : Ev n c (.Subscript (.Subscript v2 s2 p2) slice pos) (.int (o i j)) := by
  have g : ∀ {β : Type} (f : Nat → β) (k : Nat), k < 6 → ((List.range 6).map f)[pyIdx k ((List.range 6).map f).length]? = some (f k) := fun f k h => by
    have : pyIdx k ((List.range 6).map f).length = k := by unfold pyIdx; rw [if_neg (by lia)]; simp
    rw [this, List.getElem?_map, List.getElem?_range h]; rfl
  refine Ev.at (Ev.at hv hi ?_ ?_ ?_ (g _ i h1) hq2) hj ?_ ?_ ?_ (g _ j h2) hq <;> rw [List.length_map, List.length_range] <;> lia
end

noncomputable def freeF (o : Nat → Nat → Int) (lo hi : Nat) : D → Option D
  | .int i => if decide (o lo i.toNat ≤ 0) && decide (o i.toNat hi < 0) then some (.int i) else none
  | _ => none
set_option maxRecDepth 100000 in
theorem free_fn {w : World} {h₀ : Heap} (B : Base w h₀) {n : Nat} (hn : 4 ≤ n) (o : Nat → Nat → Int) (wd : List Nat) (k : Nat) (hl : wd.length = 6) (hw : ∀ x ∈ wd, x < 6) (hk : k < 5) :
    Fn (n + 1) w h₀ (.ref 141) [natsD wd, ordD o, .int k] (.bool (freeB o wd k)) := by
  refine fn_enter (o := _) (fd := _) (body := _) (params := [Str.ofString "word", Str.ofString "order", Str.ofString "k"]) B rfl rfl rfl rfl rfl rfl rfl (fun vals h => ?_) (by decide) (by decide) rfl (by decide) rfl rfl rfl rfl ?_
  · exact bindv3 h fun a b c => rfl
  · intro X A s L Q E ok rm st kk
    have ga : ∀ j, j < 6 → wd.getD j 0 < 6 := fun j hj => by
      rw [List.getD_eq_getElem?_getD, List.getElem?_eq_getElem (by lia)]; exact hw _ (List.getElem_mem _)
    have lo6 : loOf o wd k < 6 := by unfold loOf; split <;> exact ga _ (by lia)
    have hi6 : hiOf o wd k < 6 := by unfold hiOf; split <;> exact ga _ (by lia)
    have sle : sl (some ((k : Int) + 2)) none (wd.map fun x : Nat => D.int x) = (wd.drop (k + 2)).map fun x : Nat => D.int x := by
      rw [show ((k : Int) + 2) = ((k + 2 : Nat) : Int) by lia, sl_from, List.map_drop]
    have res : (sl (some ((k : Int) + 2)) none (wd.map fun x : Nat => D.int x)).filterMap (freeF o (loOf o wd k) (hiOf o wd k)) = ((wd.drop (k + 2)).filter fun b => decide (o (loOf o wd k) b ≤ 0) && decide (o b (hiOf o wd k) < 0)).map fun x : Nat => D.int x := by
      rw [sle]
      refine filterMap_sub _ _ _ _ fun x m => ?_
      show (if decide (o (loOf o wd k) (x : Int).toNat ≤ 0) && decide (o (x : Int).toNat (hiOf o wd k) < 0) then some (D.int x) else none) = _
      rw [Int.toNat_natCast]
    refine sAssignT (d := natsD [loOf o wd k, hiOf o wd k]) ok rm st (Ev.ifexp (Tv.cmp (Ev.ord (Ev.name 1) (Ev.nats (Ev.name 0) (Ev.name 2) (by lia) (by lia)) (Ev.nats (Ev.name 0) (Ev.bin (Ev.name 2) Ev.kInt op_add) (k := k + 1) (by lia) (by lia)) (ga _ (by lia)) (ga _ (by lia))) Ev.kInt op_lt)
      (fun hb => ?_) (fun hb => ?_)) (Asg.list (.cons (.name 3) (.cons (.name 4) .nil))) (fun s₁ p₁ st₁ => ?_)
    · refine Ev.cast (Ev.slc (Ev.name 0) (.yes (Ev.name 2)) (.yes (Ev.bin (Ev.name 2) Ev.kInt op_add)) (by rw [List.length_map]; exact Nat.le_trans (Nat.le_of_eq hl) (by decide))) ?_
      have hb' : o (wd.getD k 0) (wd.getD (k + 1) 0) < 0 := of_decide_eq_true hb
      rw [show ((k : Int) + 2) = ((k + 2 : Nat) : Int) by lia, sl_mid, ← List.map_take, ← List.map_drop, two_of wd k (by lia) 0]
      unfold loOf hiOf
      rw [if_pos hb', if_pos hb']
    · refine Ev.cast (Ev.list (.cons (Ev.nats (Ev.name 0) (Ev.bin (Ev.name 2) Ev.kInt op_add) (k := k + 1) (by lia) (by lia)) (.cons (Ev.nats (Ev.name 0) (Ev.name 2) (by lia) (by lia)) .nil)) (by show 2 ≤ sizeLine; decide)) ?_
      have hb' : ¬ o (wd.getD k 0) (wd.getD (k + 1) 0) < 0 := of_decide_eq_false hb
      unfold loOf hiOf
      rw [if_neg hb', if_neg hb']; rfl
    · refine sReturn (ok.wd _) rm st₁ (Ev.and (Ev.cmp (Ev.ord (Ev.name 1) (Ev.name 3) (Ev.name 4) lo6 hi6) Ev.kInt op_lt) (fun _ => Ev.cmp (Ev.lc (freeF o (loOf o wd k) (hiOf o wd k)) (CompOk.of [1, 3, 4]) hn (EvI.lst (Ev.slc (Ev.name 0) (.yes (Ev.bin (Ev.name 2) Ev.kInt op_add)) .no (by rw [List.length_map]; exact Nat.le_trans (Nat.le_of_eq hl) (by decide)))) ?_ ?_) (Ev.list .nil) (op_neNil ?_ (by lia)))) fun v s₂ p₂ r₂ => ?_
      · rw [sle, List.length_map, List.length_drop]; exact Nat.le_trans (Nat.sub_le _ _) (Nat.le_trans (Nat.le_of_eq hl) (by decide))
      · intro io N d hd
        rw [sle] at hd
        obtain ⟨b, hb, rfl⟩ := List.mem_map.mp hd
        have b6 : b < 6 := hw b (List.mem_of_mem_drop hb)
        exact CTurn.keep (b := decide (o (loOf o wd k) b ≤ 0) && decide (o b (hiOf o wd k) < 0)) (Asg.name 1) (Tv.and (Tv.cmp (Ev.ord (Ev.name 2) (Ev.name 3) (Ev.name 1) lo6 b6) Ev.kInt op_le) (fun _ => Tv.cmp (Ev.ord (Ev.name 2) (Ev.name 1) (Ev.name 4) b6 hi6) Ev.kInt op_lt)) (fun _ => Ev.name 1)
      · rw [res]; exact plain_lst fun _ _ => plain_int
      · have e : freeB o wd k = (decide (o (loOf o wd k) (hiOf o wd k) < 0) && !((sl (some ((k : Int) + 2)) none (wd.map fun x : Nat => D.int x)).filterMap (freeF o (loOf o wd k) (hiOf o wd k))).isEmpty) := by
          rw [res, any_filter]; rfl
        refine kk v s₂ (p₁.trans p₂.up) ?_
        rw [e]
        exact r₂.less fun b hb => List.mem_append_right _ hb
end Mine
end
section
open PySem PySem.W PyProof.Rows
set_option Elab.async false
set_option linter.unusedVariables false
set_option pp.deepTerms false
set_option pp.deepTerms.threshold 4
namespace Mine

/-- the tree's tokens: 0 opens, 1 closes, k + 2 is the name k -/
noncomputable def treeT (r : Nat → Int) : Nat → List Nat → List Nat
  | 0, _ => []
  | _, [] => []
  | f + 1, a :: w =>
    let l := (a :: w).getLastD 0
    0 :: (l + 2) :: (treeT r f ((a :: w).dropLast.filter fun k => decide (r k ≤ r l)) ++ 1 :: treeT r f ((a :: w).dropLast.filter fun k => decide (r k > r l)))
noncomputable def unitOf (nm : List (List Nat)) : Nat → List Nat
  | 0 => [40]
  | 1 => [41]
  | k + 2 => nm.getD k []
noncomputable abbrev strsD (l : List (List Nat)) : D := .lst (l.map .str)
noncomputable abbrev intsD (l : List Int) : D := .lst (l.map .int)
/-- a list of units -/
noncomputable abbrev unitsD (nm : List (List Nat)) (ts : List Nat) : D := strsD (ts.map (unitOf nm))

theorem map_get {α : Type} (f : α → D) (l : List α) (d : α) {k : Nat} (h : k < l.length) : (l.map f)[pyIdx k (l.map f).length]? = some (f (l.getD k d)) := by
  have : pyIdx k (l.map f).length = k := by unfold pyIdx; rw [if_neg (by lia)]; simp
  rw [this, List.getElem?_map, List.getElem?_eq_getElem h, List.getD_eq_getElem?_getD, List.getElem?_eq_getElem h]; rfl
theorem map_last {α : Type} (f : α → D) (l : List α) (d : α) (h : l ≠ []) : (l.map f)[pyIdx (-1) (l.map f).length]? = some (f (l.getLastD d)) := by
  have hl : 0 < l.length := List.length_pos_iff.mpr h
  have : pyIdx (-1) (l.map f).length = l.length - 1 := by unfold pyIdx; rw [if_pos (by decide), List.length_map]; lia
  rw [this, List.getElem?_map, List.getLastD_eq_getLast?, List.getLast?_eq_getElem?, List.getElem?_eq_getElem (by lia)]; rfl
section
variable {n : Nat} {c : Cx} {value slice : Expr} {pos : Pos}
theorem Ev.atM {α : Type} {f : α → D} {l : List α} {k : Nat} (d : α) (hv : Ev n c value (.lst (l.map f))) (hs : Ev n c slice (.int k)) (h : k < l.length) (hz : l.length ≤ 2 ^ 30)
    (hq : ∀ v i, subscripted slice false v i = operate [v, i] (getItem v i) := by intro _ _; with_unfolding_all rfl) : Ev n c (.Subscript value slice pos) (f (l.getD k d)) :=
  Ev.at hv hs (by rw [List.length_map]; omega) (by rw [List.length_map]; omega) (by rw [List.length_map]; omega) (map_get f l d h) hq
theorem Ev.lastM {α : Type} {f : α → D} {l : List α} (d : α) (hv : Ev n c value (.lst (l.map f))) (hs : Ev n c slice (.int (-1))) (h : l ≠ []) (hz : l.length ≤ 2 ^ 30)
    (hq : ∀ v i, subscripted slice false v i = operate [v, i] (getItem v i) := by intro _ _; with_unfolding_all rfl) : Ev n c (.Subscript value slice pos) (f (l.getLastD d)) :=
  Ev.at hv hs (by have := List.length_pos_iff.mpr h; rw [List.length_map]; lia) (by rw [List.length_map]; lia) (by rw [List.length_map]; lia) (map_last f l d h) hq
end
noncomputable def leF (r : Nat → Int) (l : Nat) : D → Option D
  | .int i => if decide (r i.toNat ≤ r l) then some (.int i) else none
  | _ => none
noncomputable def gtF (r : Nat → Int) (l : Nat) : D → Option D
  | .int i => if decide (r i.toNat > r l) then some (.int i) else none
  | _ => none
theorem treeT_len (r : Nat → Int) : ∀ (f : Nat) (w : List Nat), (treeT r f w).length ≤ 3 * w.length
  | 0, _ => by simp [treeT]
  | f + 1, [] => by simp [treeT]
  | f + 1, a :: w => by
    rw [treeT, List.length_cons, List.length_cons, List.length_append, List.length_cons]
    have h1 := treeT_len r f ((a :: w).dropLast.filter fun k => decide (r k ≤ r ((a :: w).getLastD 0)))
    have h2 := treeT_len r f ((a :: w).dropLast.filter fun k => decide (r k > r ((a :: w).getLastD 0)))
    have h3 : ∀ (l : List Nat), (l.filter fun k => decide (r k ≤ r ((a :: w).getLastD 0))).length + (l.filter fun k => decide (r k > r ((a :: w).getLastD 0))).length = l.length := by
      intro l
      induction l with
      | nil => rfl
      | cons x l ih =>
        rw [List.filter_cons, List.filter_cons, List.length_cons]
        by_cases hx : r x ≤ r ((a :: w).getLastD 0)
        · rw [if_pos (by simpa using hx), if_neg (by simpa using hx), List.length_cons]; lia
        · rw [if_neg (by simpa using hx), if_pos (by simpa using hx), List.length_cons]; lia
    have h4 := h3 (a :: w).dropLast
    rw [List.length_dropLast, List.length_cons] at h4
    rw [List.length_cons]
    lia

set_option maxRecDepth 100000 in
theorem tree_nil {w : World} {h₀ : Heap} (B : Base w h₀) (ranks : List Int) (nm : List (List Nat)) {n : Nat} (hn : 4 ≤ n) :
    Fn (n + 1) w h₀ (.ref 117) [natsD [], intsD ranks, strsD nm] (unitsD nm []) := by
  refine fn_enter (o := _) (fd := _) (body := _) (params := [Str.ofString "word", Str.ofString "ranks", Str.ofString "names"]) B rfl rfl rfl rfl rfl rfl rfl (fun vals h => ?_) (by decide) (by decide) rfl (by decide) rfl rfl rfl rfl ?_
  · exact bindv3 h fun a b c => rfl
  · intro X A s L Q E ok rm st kk
    have pw : (natsD []).plain = true := plain_lst fun _ _ => plain_int
    refine sIf ok rm st (Tv.cmp (Ev.name 0) (Ev.list .nil) (op_eqNil pw (by lia))) (fun hb s₁ p₁ st₁ => ?_) (fun hb s₁ p₁ st₁ => nomatch hb)
    exact sReturn ok rm st₁ (Ev.list .nil) fun v s₂ p₂ r₂ => kk v s₂ (p₁.up.trans p₂.up) (r₂.less fun b hb => List.mem_append_right _ hb)

set_option maxRecDepth 100000 in
theorem tree_step {w : World} {h₀ : Heap} (B : Base w h₀) (ranks : List Int) (nm : List (List Nat)) (hr : ranks.length = 6) (hm : nm.length = 6) (f : Nat) (a : Nat) (wd : List Nat) (hl : wd.length < 6) (hw : ∀ x ∈ a :: wd, x < 6) {n : Nat} (hn : 4 ≤ n)
    (ih : ∀ (wd' : List Nat), wd'.length ≤ wd.length → (∀ x ∈ wd', x < 6) → Fn n w h₀ (.ref 117) [natsD wd', intsD ranks, strsD nm] (unitsD nm (treeT (fun k => ranks.getD k 0) f wd'))) :
    Fn (n + 1) w h₀ (.ref 117) [natsD (a :: wd), intsD ranks, strsD nm] (unitsD nm (treeT (fun k => ranks.getD k 0) (f + 1) (a :: wd))) := by
  refine fn_enter (o := _) (fd := _) (body := _) (params := [Str.ofString "word", Str.ofString "ranks", Str.ofString "names"]) B rfl rfl rfl rfl rfl rfl rfl (fun vals h => ?_) (by decide) (by decide) rfl (by decide) rfl rfl rfl rfl ?_
  · exact bindv3 h fun a b c => rfl
  · intro X A s L Q E ok rm st kk
    have pw : (natsD (a :: wd)).plain = true := plain_lst fun _ _ => plain_int
    have l6 : (a :: wd).getLastD 0 < 6 := by
      rw [List.getLastD_cons]
      cases h : wd.getLast? with
      | none => rw [List.getLastD_eq_getLast?, h]; exact hw a (.head _)
      | some x => rw [List.getLastD_eq_getLast?, h]; exact hw x (.tail _ (List.mem_of_getLast? h))
    have i6 : ∀ x ∈ (a :: wd).dropLast, x < 6 := fun x m => hw x (List.dropLast_subset _ m)
    have il : (a :: wd).dropLast.length = wd.length := by rw [List.length_dropLast]; rfl
    have sli : sl none (some (-1 : Int)) ((a :: wd).map fun x : Nat => D.int x) = (a :: wd).dropLast.map fun x : Nat => D.int x := by rw [sl_init, List.map_dropLast]
    have szl : ((a :: wd).map fun x : Nat => D.int x).length ≤ sizeLine := by rw [List.length_map]; exact Nat.le_trans (show wd.length + 1 ≤ 6 by lia) (by decide)
    have l30 : (a :: wd).length ≤ 2 ^ 30 := by rw [List.length_cons]; lia
    have szi : (sl none (some (-1 : Int)) ((a :: wd).map fun x : Nat => D.int x)).length ≤ sizeLine := Nat.le_trans (sl_length _ _ _) szl
    refine sIf ok rm st (Tv.cmp (Ev.name 0) (Ev.list .nil) (op_eqNil pw (by lia))) (fun hb s₁ p₁ st₁ => nomatch hb) (fun hb s₁ p₁ st₁ => ?_)
    refine sNil ?_
    refine sSwap2 3 4 ok rm st₁ (d₁ := natsD ((a :: wd).dropLast.filter fun k => decide (ranks.getD k 0 ≤ ranks.getD ((a :: wd).getLastD 0) 0))) (d₂ := natsD ((a :: wd).dropLast.filter fun k => decide (ranks.getD k 0 > ranks.getD ((a :: wd).getLastD 0) 0)))
      (Ev.tuple (.cons ?_ (.cons ?_ .nil)) (by show 2 ≤ sizeLine; decide)) (fun s₂ p₂ st₂ => ?_)
    · refine Ev.cast (Ev.lc (leF (fun k => ranks.getD k 0) ((a :: wd).getLastD 0)) (CompOk.of [0, 1]) hn (EvI.lst (Ev.slc (Ev.name 0) .no (.yes (Ev.un Ev.kInt op_neg)) szl)) szi ?_) ?_
      · intro io N d hd
        rw [sli] at hd
        obtain ⟨b, hb, rfl⟩ := List.mem_map.mp hd
        exact CTurn.keep (b := decide (ranks.getD b 0 ≤ ranks.getD ((a :: wd).getLastD 0) 0)) (Asg.name 1) (Tv.cmp (Ev.atM 0 (Ev.name 3) (Ev.name 1) (by rw [hr]; exact i6 b hb) (by lia))
          (Ev.atM (f := D.int) 0 (Ev.name 3) (Ev.lastM (f := fun x : Nat => D.int x) 0 (Ev.name 2) (Ev.un Ev.kInt op_neg) (by simp) l30) (by rw [hr]; exact l6) (by lia)) op_le) (fun _ => Ev.name 1)
      · rw [sli]
        exact congrArg D.lst (filterMap_sub _ _ _ _ fun x m => rfl)
    · refine Ev.cast (Ev.lc (gtF (fun k => ranks.getD k 0) ((a :: wd).getLastD 0)) (CompOk.of [0, 1]) hn (EvI.lst (Ev.slc (Ev.name 0) .no (.yes (Ev.un Ev.kInt op_neg)) szl)) szi ?_) ?_
      · intro io N d hd
        rw [sli] at hd
        obtain ⟨b, hb, rfl⟩ := List.mem_map.mp hd
        exact CTurn.keep (b := decide (ranks.getD b 0 > ranks.getD ((a :: wd).getLastD 0) 0)) (Asg.name 1) (Tv.cmp (Ev.atM 0 (Ev.name 3) (Ev.name 1) (by rw [hr]; exact i6 b hb) (by lia))
          (Ev.atM (f := D.int) 0 (Ev.name 3) (Ev.lastM (f := fun x : Nat => D.int x) 0 (Ev.name 2) (Ev.un Ev.kInt op_neg) (by simp) l30) (by rw [hr]; exact l6) (by lia)) op_gt) (fun _ => Ev.name 1)
      · rw [sli]
        exact congrArg D.lst (filterMap_sub _ _ _ _ fun x m => rfl)
    · have fl : ∀ (p : Nat → Bool), ((a :: wd).dropLast.filter p).length ≤ wd.length := fun p => Nat.le_trans (List.length_filter_le _ _) (Nat.le_of_eq il)
      have fm : ∀ (p : Nat → Bool), ∀ x ∈ (a :: wd).dropLast.filter p, x < 6 := fun p x m => i6 x (List.mem_filter.mp m).1
      have len : ∀ (p : Nat → Bool), ((treeT (fun k => ranks.getD k 0) f ((a :: wd).dropLast.filter p)).map (unitOf nm)).length ≤ 15 := fun p => by
        rw [List.length_map]
        exact Nat.le_trans (treeT_len _ _ _) (by have := fl p; lia)
      refine sReturn (ok.wd _) rm st₂ (Ev.cast (Ev.bin (Ev.bin (Ev.bin (Ev.list (.cons Ev.kStr (.cons (Ev.atM (f := D.str) [] (Ev.name 2) (Ev.lastM (f := fun x : Nat => D.int x) 0 (Ev.name 0) (Ev.un Ev.kInt op_neg) (by simp) l30) (by rw [hm]; exact l6) (by lia)) .nil)) (by show 2 ≤ sizeLine; decide))
        (Ev.call (.cons (Ev.name 3) (.cons (Ev.name 1) (.cons (Ev.name 2) .nil))) (ih _ (fl _) (fm _))) (op_addl ?_)) (Ev.list (.cons Ev.kStr .nil) (by show 1 ≤ sizeLine; decide)) (op_addl ?_))
        (Ev.call (.cons (Ev.name 4) (.cons (Ev.name 1) (.cons (Ev.name 2) .nil))) (ih _ (fl _) (fm _))) (op_addl ?_)) ?_) fun v s₃ p₃ r₃ => kk v s₃ ((p₁.up.trans p₂).trans p₃.up) (r₃.less fun b hb => List.mem_append_right _ hb)
      all_goals try (have h1 := len fun k => decide (ranks.getD k 0 ≤ ranks.getD ((a :: wd).getLastD 0) 0)
                     have h2 := len fun k => decide (ranks.getD k 0 > ranks.getD ((a :: wd).getLastD 0) 0)
                     simp only [List.length_append, List.length_map, List.length_cons, List.length_nil] at h1 h2 ⊢
                     exact Nat.le_trans (by lia : _ ≤ 40) (by decide))
      · unfold unitsD strsD
        rw [treeT]
        simp only [List.map_cons, List.map_append, List.append_assoc, List.cons_append, List.nil_append]
        rfl

theorem tree_fn {w : World} {h₀ : Heap} (B : Base w h₀) (ranks : List Int) (nm : List (List Nat)) (hr : ranks.length = 6) (hm : nm.length = 6) : ∀ (f : Nat) (wd : List Nat), wd.length ≤ f → wd.length ≤ 6 → (∀ x ∈ wd, x < 6) →
    Fn (f + 5) w h₀ (.ref 117) [natsD wd, intsD ranks, strsD nm] (unitsD nm (treeT (fun k => ranks.getD k 0) f wd)) := by
  intro f
  induction f with
  | zero =>
    intro wd hl _ _
    rw [List.length_eq_zero_iff.mp (Nat.le_zero.mp hl)]
    exact tree_nil B ranks nm (by lia)
  | succ f ih =>
    intro wd hl h6 hw
    cases wd with
    | nil =>
      rw [show treeT (fun k => ranks.getD k 0) (f + 1) [] = [] by simp [treeT]]
      exact tree_nil B ranks nm (by lia)
    | cons a wd =>
      rw [List.length_cons] at hl h6
      exact tree_step B ranks nm hr hm f a wd (by lia) hw (by lia) fun wd' hl' hw' => ih wd' (by lia) (by lia) hw'
end Mine
end
section
open PySem PySem.W PyProof.Rows
set_option Elab.async false
set_option linter.unusedVariables false
namespace Mine
section
variable {M : Model} {A : Around} {R : GenEnd} {Y : Protocol} {n : Nat} {s₀ : Shared} {c : Code} {fs : List Frame} {s : Shared} {env : Env}
  {K : Flow → Sem Fin} {H : Value → Sem Fin} {gd : Bool → Bool} {lv : List Value → List Value}

theorem seg_bw {α : Type} {m : Sem α} {K' : α → Sem Flow} (h : wpAny M (A.over c fs) m (fun a s' => Seg M A R Y n s₀ c ((K' a).wrap K H gd lv) fs s') (fun x s' => Seg M A R Y n s₀ c (H x) fs s') s) :
    Seg M A R Y n s₀ c ((m >>= K').wrap K H gd lv) fs s := by
  rw [Sem.bind_eq_wrap', Sem.wrap_wrap]
  exact seg_wrap h
theorem seg_plain {st : Stmt} {rest : List Stmt} (h : wpAny M (A.over c fs) (exec st env) (fun f s' => f = .next ∧ Seg M A R Y n s₀ c ((execs rest env).wrap K H gd lv) fs s') (fun x s' => Seg M A R Y n s₀ c (H x) fs s') s) :
    Seg M A R Y n s₀ c ((execs (st :: rest) env).wrap K H gd lv) fs s := by
  refine seg_execs_cons (seg_wrap (wpAny_mono h (fun f s' hf => ?_) fun _ _ h => h))
  obtain ⟨rfl, hf⟩ := hf
  exact hf
theorem seg_If {t : Expr} {body orelse : List Stmt} {pos : Pos}
    (h : wpAny M (A.over c fs) (isTrue t env (eval t env)) (fun b s' => if b = true then Seg M A R Y n s₀ c ((execs body env).wrap K H gd lv) fs s' else Seg M A R Y n s₀ c ((execs orelse env).wrap K H gd lv) fs s') (fun x s' => Seg M A R Y n s₀ c (H x) fs s') s) :
    Seg M A R Y n s₀ c ((exec (.If t body orelse pos) env).wrap K H gd lv) fs s := by
  rw [exec_If]
  refine seg_bw (wpAny_standAt (seg_bw (wpAny_mono h (fun b s' hb => ?_) fun _ _ h => h)))
  cases b with
  | true => simpa using hb
  | false => simpa using hb
theorem seg_For {tg iter : Expr} {body orelse : List Stmt} {pos : Pos}
    (h : wpAny M (A.over c fs) (eval iter env) (fun x s₁ => wpAny M (A.over c fs) (pyIter x) (fun it s₂ => ∀ p,
      Seg M A R Y n s₀ (.forLoop tg it body orelse env) (M.den (.forLoop tg it body orelse env))
      (.ret (fun r => ((match r with | .ok f => (.pure f : Sem Flow) | .error e => .raise e).onRaise fun (x : Value) => do
        if (← field x 1) == Value.none then unsupported "frame.own-activation:exception-without-traceback"
        setFlight x env.frame).wrap K H gd lv) none (gd false) (lv []) c p [] :: fs) s₂) (fun x s' => Seg M A R Y n s₀ c (H x) fs s') s₁) (fun x s' => Seg M A R Y n s₀ c (H x) fs s') s)
    (hs : ∀ x, foldedSetIterable iter env x = pure x := by intro _; rfl) :
    Seg M A R Y n s₀ c ((exec (.For tg iter body orelse pos) env).wrap K H gd lv) fs s := by
  rw [exec_For]
  refine seg_bw (wpAny_standAt (seg_bw (wpAny_mono h (fun x s₁ h₁ => ?_) fun _ _ h => h)))
  refine seg_bw (wpAny_of_eq (hs x) (seg_bw (wpAny_standAt (seg_bw (wpAny_holding (wpAny_mono h₁ (fun it s₂ h₂ => ?_) fun _ _ h => h))))))
  exact seg_call h₂
end
section
variable {w : World} {A : Around} {R : GenEnd} {Y : Protocol} {n : Nat} {s₀ : Shared} {fs : List Frame} {s : Shared} {env : Env}
theorem seg_bindF {c : Code} {α β : Type} {m : Sem α} {K' : α → Sem β} {K : β → Sem Fin} {H : Value → Sem Fin} {gd : Bool → Bool} {lv : List Value → List Value}
    (h : wpAny (model prog w) (A.over c fs) m (fun a s' => Seg (model prog w) A R Y n s₀ c ((K' a).wrap K H gd lv) fs s') (fun x s' => Seg (model prog w) A R Y n s₀ c (H x) fs s') s) :
    Seg (model prog w) A R Y n s₀ c ((m >>= K').wrap K H gd lv) fs s := by
  rw [Sem.bind_eq_wrap', Sem.wrap_wrap]
  exact seg_wrap h

/-- one turn of a loop in a generator; E' is what a raise leads to, which never comes -/
theorem seg_forLoop {tg : Expr} {it : Value} {body orelse : List Stmt} {H : Value → Sem Fin} (hH : H = fun e => (do noteFrame e env; theTreesLotGoes e : Sem Unit).bind fun _ => .raise e)
    (h : wpAny (model prog w) (A.over (.forLoop tg it body orelse env) fs) (pyNext it) (fun r s₁ => match r with
      | none => Seg (model prog w) A R Y n s₀ (.block orelse env) ((model prog w).den (.block orelse env)) fs s₁
      | some v => wpAny (model prog w) (A.over (.forLoop tg it body orelse env) fs) (letOwnedTupleGo tg it v) (fun _ s₂ => wpAny (model prog w) (A.over (.forLoop tg it body orelse env) fs) (assign tg env v) (fun _ s₃ =>
          Seg (model prog w) A R Y n s₀ (.forLoop tg it body orelse env) ((execs body env).wrap (fun f => match f with
            | .next | .cont => .pure (.again (.forLoop tg it body orelse env))
            | .brk => .pure (.done .next)
            | .ret v => .pure (.done (.ret v))) H id id) fs s₃)
          (fun x s' => Seg (model prog w) A R Y n s₀ (.forLoop tg it body orelse env) (H x) fs s') s₂) (fun x s' => Seg (model prog w) A R Y n s₀ (.forLoop tg it body orelse env) (H x) fs s') s₁)
      (fun x s' => Seg (model prog w) A R Y n s₀ (.forLoop tg it body orelse env) (H x) fs s') s) :
    Seg (model prog w) A R Y n s₀ (.forLoop tg it body orelse env) ((model prog w).den (.forLoop tg it body orelse env)) fs s := by
  subst hH
  show Seg _ A R Y n s₀ _ ((forTurn tg it body orelse env).onRaise (fun x => do noteFrame x env; theTreesLotGoes x)) fs s
  unfold forTurn
  rw [Sem.onRaise_eq_wrap]
  refine seg_bindF (wpAny_standAt (seg_bindF (wpAny_onRaise (wpAny_mono h (fun r s₁ h₁ => ?_) fun x s' h => wpAny_standAt h))))
  cases r with
  | none => exact seg_again rfl h₁
  | some v =>
    refine seg_bindF (wpAny_mono h₁ (fun _ s₂ h₂ => seg_bindF (wpAny_mono h₂ (fun _ s₃ h₃ => ?_) fun _ _ h => h)) fun _ _ h => h)
    rw [Sem.bind_eq_wrap', Sem.wrap_wrap]
    rw [Sem.wrap_congr (execs body env) _ _ (K' := fun f => match f with
            | .next | .cont => .pure (.again (.forLoop tg it body orelse env))
            | .brk => .pure (.done .next)
            | .ret v => .pure (.done (.ret v))) (H' := fun e => (do noteFrame e env; theTreesLotGoes e : Sem Unit).bind fun _ => .raise e)
        (fun f => by cases f <;> rfl) (fun e => by rfl)]
    exact h₃
theorem seg_forLoopN {tg : Expr} {it : Value} {body orelse : List Stmt}
    (h : NextW w (A.over (.forLoop tg it body orelse env) fs) tg it (fun r s₁ => match r with
      | none => Seg (model prog w) A R Y n s₀ (.block orelse env) ((model prog w).den (.block orelse env)) fs s₁
      | some v => wpAny (model prog w) (A.over (.forLoop tg it body orelse env) fs) (assign tg env v) (fun _ s₃ =>
          Seg (model prog w) A R Y n s₀ (.forLoop tg it body orelse env) ((execs body env).wrap (fun f => match f with
            | .next | .cont => .pure (.again (.forLoop tg it body orelse env))
            | .brk => .pure (.done .next)
            | .ret v => .pure (.done (.ret v))) (fun e => (do noteFrame e env; theTreesLotGoes e : Sem Unit).bind fun _ => .raise e) id id) fs s₃)
          (fun x s' => Seg (model prog w) A R Y n s₀ (.forLoop tg it body orelse env) ((do noteFrame x env; theTreesLotGoes x : Sem Unit).bind fun _ => .raise x) fs s') s₁)
      (fun x s' => Seg (model prog w) A R Y n s₀ (.forLoop tg it body orelse env) ((do noteFrame x env; theTreesLotGoes x : Sem Unit).bind fun _ => .raise x) fs s') s) :
    Seg (model prog w) A R Y n s₀ (.forLoop tg it body orelse env) ((model prog w).den (.forLoop tg it body orelse env)) fs s := by
  unfold NextW at h
  refine seg_forLoop rfl (wpAny_mono h (fun r s₁ h => ?_) fun _ _ h => h)
  cases r <;> exact h
theorem seg_blockNil (h : Seg (model prog w) A R Y n s₀ (.block [] env) (.pure (.done .next)) fs s) :
    Seg (model prog w) A R Y n s₀ (.block [] env) ((model prog w).den (.block [] env)) fs s := h
end
end Mine
end
section
open PySem PySem.W PyProof.Rows
set_option Elab.async false
set_option linter.unusedVariables false
set_option pp.deepTerms false
set_option pp.deepTerms.threshold 4
namespace Mine

/-- the units of a text, each with the place of its last sign -/
noncomputable def unitsP : Nat → Bool → List Nat → List (Nat × List Nat)
  | _, false, [] => []
  | p, true, [] => [(p - 1, [92])]
  | p, true, c :: r => (p, [92, c]) :: unitsP (p + 1) false r
  | p, false, c :: r => if c = 92 then unitsP (p + 1) true r else (p, [c]) :: unitsP (p + 1) false r
noncomputable abbrev unitD (u : Nat × List Nat) : D := .tup [.int u.1, .str u.2]

/-! enumerate over a text of ASCII signs -/
noncomputable def JEnumS (e I : Addr) (l : List Nat) (i : Nat) (h : Heap) : Prop :=
  ∃ (t : Tok) (old : Value), IsEnum h e I (i : Nat) old ∧ h.IsStrIter I "str_ascii_iterator" ⟨l.toArray⟩ t i
theorem enumS_next {w : World} {A : Around} {s : Shared} {e I : Addr} {l : List Nat} {i c : Nat} {es : List Expr} {k : Nat} {p : Pos} {Q : Option Value → Shared → Prop} {E : Value → Shared → Prop} (hh : A.handled = none) (hne : e ≠ I) (J : JEnumS e I l i s.heap) (hc : l[i]? = some c)
    (kk : ∀ t x y s', Step [e, I] [] s s' → s.heap.get? t = none → IsTup s'.heap t #[.int i x, .str ⟨#[c]⟩ y] → JEnumS e I l (i + 1) s'.heap → Q (some (.ref t)) s') : NextW w A (.Tuple es k p) (.ref e) Q E s := by
  obtain ⟨t, old, he, hi⟩ := J
  have Dr := Draws.strAscii (prog := prog) (w := w) (A := A.in1) hh I ⟨l.toArray⟩ t
  have hsz : (⟨l.toArray⟩ : Str).cps.size = l.length := by simp
  have hlt : i < l.length := (List.getElem?_eq_some_iff.mp hc).1
  refine wpAny_pyNext_enum_itemD Dr he hi (by simpa using hlt) hne (by simpa using hne) fun x h' tk hP ho hst hT hz hk => ?_
  obtain ⟨y, rfl⟩ : ∃ y, x = .str ⟨#[c]⟩ y := by
    obtain ⟨c', t', e1, e2⟩ := hP
    have : c' = c := by
      have e1' : l[i]? = some c' := by simpa using e1
      rw [hc] at e1'; exact (Option.some.inj e1').symm
    subst this
    exact ⟨t', e2⟩
  refine wpAny_letOwnedTupleGo_enum ho fun h'' he' hs' => ?_
  have fr := get_size s.heap
  have sz : s.heap.objs.size ≠ e := fun q => by rw [q, he] at fr; cases fr
  have hk' : ∀ b o, b ≠ e → b ≠ I → s.heap.get? b = some o → h''.get? b = some o := fun b o n1 n2 g => hs'.extBut b o n1 (hk b o n1 n2 g)
  refine kk s.heap.objs.size tk y _ (.heap fun b o n g => hk' b o (fun q => n (by simp [q])) (fun q => n (by simp [q])) g) fr ⟨_, hs'.extBut _ _ sz hT, rfl, _, rfl⟩ ⟨t, _, he', ?_⟩
  obtain ⟨o, g, r⟩ := hst
  exact ⟨o, hs'.extBut _ _ (Ne.symm hne) g, r⟩
theorem nextOf_end {w : World} {A : Around} {s : Shared} {E : Value → Shared → Prop} {it : Addr} {x : Str} {t : Tok} {i : Nat} {Q : Value → Shared → Prop} (hh : A.handled = none)
    (hit : s.heap.IsStrIter it "str_ascii_iterator" x t i) (hx : x.cps[i]? = none)
    (hE : ∀ h' e, Heap.ExtBut it s.heap h' → (∃ o, h'.get? it = some o) → (∃ o, h'.get? e = some o ∧ o.cls = .type "StopIteration") → E (.ref e) { s with heap := h' }) :
    wpAny (model prog w) A (Builtin.SmallTypes.nextOf (.ref it)) Q E s := by
  obtain ⟨o, ho, hc, hd⟩ := id hit
  unfold Builtin.SmallTypes.nextOf
  refine wpAny_bind (wpAny_callSpecial?_slot (name := Str.ofString "__next__") hit.typeIs F.slot_str_ascii_iterator_next
    (wpAny_call_entry F.slot_str_ascii_iterator_next hit.typeIs F.entry_str_ascii_iterator_next ?_ (F.args_str_ascii_iterator_next_1 _)))
  show wpAny _ _ (field (.ref it) 0 >>= _) _ _ s
  refine wpAny_bind (wpAny_field ho hd (x := .str x t) rfl ?_)
  show wpAny _ _ (field (.ref it) 1 >>= _) _ _ s
  refine wpAny_bind (wpAny_field ho hd (x := .int i 0) rfl ?_)
  simp only [Int.toNat_natCast, hx]
  refine wpAny_bind (wpAny_rule (wpAny_bind (wpAny_setField ho hd (by simp) (wpAny_bind (wpAny_letGo ?_)))))
  show wpAny _ _ (newExc (.type "StopIteration") [] >>= _) _ _ _
  refine wpAny_bind ?_
  simp only [newExc, newTuple]
  refine wpAny_bind (wpAny_newObj_type ?_ (by size_fits))
  refine wpAny_bind (m := firstArgMember _ _) (wpAny_of_eq (a := Value.none) (by first | rfl | (simp only [firstArgMember]; rfl)) ?_)
  refine wpAny_newObj_type ?_ (by size_fits)
  simp only [raiseNew]
  refine wpAny_bind (wpAny_handled ?_)
  first | rw [show A.in1.handled = none from hh] | rw [hh]
  refine wpAny_bind (wpAny_pure (wpAny_throw ?_))
  exact hE _ _ (((Heap.SameBut.update ..).extBut.push _).push _) ⟨_, Heap.get?_push_of_some _ (Heap.get?_push_of_some _ (Heap.get?_update_self _ ho (Obj.isFreed_of_fields (Obj.data_mapFields hd _))))⟩ ⟨_, Heap.get?_push_size _ rfl, rfl⟩
theorem enumS_done {w : World} {A : Around} {s : Shared} {e I : Addr} {l : List Nat} {es : List Expr} {k : Nat} {p : Pos} {Q : Option Value → Shared → Prop} {E : Value → Shared → Prop} (hh : A.handled = none) (hne : e ≠ I) (J : JEnumS e I l l.length s.heap)
    (kk : ∀ s', Step [e, I] [] s s' → Low [e, I] s'.heap → Q none s') : NextW w A (.Tuple es k p) (.ref e) Q E s := by
  obtain ⟨t, old, he, hi⟩ := J
  have hT : s.TypeIs (.ref e) "enumerate" := ⟨_, he, rfl⟩
  unfold NextW pyNext
  refine wpAny_bind (wpAny_attempt (wpAny_callSpecial?_slot (name := Str.ofString "__next__") hT F.slot_enumerate_next
    (wpAny_call_entry F.slot_enumerate_next hT F.entry_enumerate_next ?_ (F.args_enumerate_next_1 _))))
  show wpAny _ _ (field (.ref e) 2 >>= _) _ _ _
  refine wpAny_bind (wpAny_field he rfl (x := .ref I) rfl ?_)
  refine wpAny_bind (nextOf_end (A := A.in1) hh hi (by simp) fun h' x he' hI hx' => ?_)
  obtain ⟨o, ho, hc⟩ := hx'
  refine wpAny_bind (wpAny_isInstance (T := "StopIteration") (b := true) ⟨o, ho, hc⟩ isSubtype_stop ?_)
  obtain ⟨oI, gI⟩ := hI
  exact wpAny_pure (kk _ (.extBut he' (by simp)) (Low.cons (he' _ _ hne he) (Low.cons gI Low.nil)))

theorem Rm.overFunc {n A b e} (x : Rm (n + 1) A) : Rm n (A.over (.func b e) []) := ⟨x.handled, by have := x.depth; show A.depth + 0 + 1 + n < _; lia, by have := x.units; show A.units + 0 + 3 + 60 * n < _; lia⟩
end Mine
end
section
open PySem PySem.W PyProof.Rows
set_option Elab.async false
set_option linter.unusedVariables false
set_option pp.deepTerms false
set_option pp.deepTerms.threshold 4
namespace Mine

noncomputable abbrev ownG (L N : Addr) : List Addr := [L, N + 1, N]
noncomputable def Kept (io : List Addr) (s s' : Shared) : Prop := ∀ b ∈ io, ∀ o, s.heap.get? b = some o → s'.heap.get? b = some o
noncomputable def gP (L N : Addr) (n : Nat) (s₀ s₁ : Shared) : Prop := n = 0 ∧ Step (ownG L N) [] s₀ s₁
noncomputable abbrev gR (L N : Addr) : GenEnd := fun n s₀ r s₁ => r = .ok (.ret .none) ∧ gP L N n s₀ s₁
noncomputable def gY (h₀ : Heap) (L N : Addr) (all : List (Nat × List Nat)) : Protocol := fun k s₀ v s₁ kap =>
  ∃ u t x y, k < all.length ∧ all[all.length - 1 - k]? = some u ∧ v = .ref t ∧ s₀.heap.get? t = none ∧ t ∉ ownG L N ∧ IsTup s₁.heap t #[.int (u.1 : Nat) x, .str ⟨u.2.toArray⟩ y] ∧
    Step (ownG L N) [] s₀ s₁ ∧ Low (ownG L N) s₁.heap ∧ ∀ s'', Kept (ownG L N) s₁ s'' → Ext h₀ s''.heap → kap (.send .none) s''

theorem loop_down {M : Model} {A : Around} {R : GenEnd} {Y : Protocol} {code : Code} {fs : List Frame} (I : Nat → Nat → Shared → Shared → Prop) (len : Nat)
    (turn : ∀ k n s₀ s, k ≤ len → I k n s₀ s → (∀ n' s₀' s', k < len → I (k + 1) n' s₀' s' → Seg M A R Y n' s₀' code (M.den code) fs s') → Seg M A R Y n s₀ code (M.den code) fs s) :
    ∀ (j k n : Nat) (s₀ s : Shared), k + j = len → I k n s₀ s → Seg M A R Y n s₀ code (M.den code) fs s := by
  intro j
  induction j with
  | zero =>
    intro k n s₀ s e hI
    exact turn k n s₀ s (by lia) hI fun n' s₀' s' hlt _ => absurd hlt (by lia)
  | succ j ih =>
    intro k n s₀ s e hI
    exact turn k n s₀ s (by lia) hI fun n' s₀' s' hlt hI' => ih (k + 1) n' s₀' s' (by lia) hI'

/-- a tuple, its object new -/
theorem evTuple {n : Nat} {c : Cx} {es : List Expr} {kk : Nat} {pos : Pos} {ds : List D} {A : Around} {s : Shared} {Q : Value → Shared → Prop} {E : Value → Shared → Prop} (h : Evs n c es ds) (hz : ds.length ≤ sizeLine) (ok : Ok c) (rm : Rm n A) (st : St c s)
    (k : ∀ a vs s', Pure s s' → s.heap.get? a = none → a ∉ c.X → IsTup s'.heap a vs.toArray → RepL c.X s'.heap ds vs → Q (.ref a) s') : wpAny c.M A (eval (.Tuple es kk pos) c.env) Q E s := by
  refine Tuple_ (h ok A s _ _ _ rm st fun vs s₁ p₁ r₁ => ?_)
  have st₁ := st.pure p₁
  unfold newTuple
  have pp : Pure s₁ { s₁ with heap := s₁.heap.push { cls := .type "tuple", data := .seq vs.toArray } } := .push
  exact wpAny_newObj_type (k _ vs _ (p₁.trans .push) (none_of_ext p₁ (get_size _)) (fresh_not st₁.low) ⟨_, Heap.get?_push_size _ rfl, rfl, 0, rfl⟩ (r₁.ext pp.pure)) (by show vs.toArray.size ≤ sizeLine; simpa [r₁.length] using hz)

theorem Rm.overLoop {n A tg it b orelse e k g lv b' e' p} (x : Rm (n + 1) A) : Rm n (A.over (.forLoop tg it b orelse e) [.ret k none g lv (.func b' e') p []]) :=
  ⟨x.handled, by have := x.depth; show A.depth + 1 + 0 + n < _; lia, by have := x.units; show A.units + 3 + 0 + 60 * n < _; lia⟩
/-- the generator's frame while its loop runs -/
noncomputable abbrev genCx (w : World) (h₀ : Heap) (fd : FuncData) (L N : Addr) (ds : List (Option D)) : Cx :=
  { w, h₀, X := ownG L N, env := callEnvC fd L 49, vs := scopeVs (L + 1) fd.scope.names, ds }
/-- what holds at the loop's head: k signs are read -/
noncomputable def GI (w : World) (h₀ : Heap) (fd : FuncData) (L N : Addr) (l : List Nat) (all : List (Nat × List Nat)) (k n : Nat) (s₀ s : Shared) : Prop :=
  ∃ esc pre, n = (unitsP k esc (l.drop k)).length ∧ all = pre ++ unitsP k esc (l.drop k) ∧ St (genCx w h₀ fd L N [some (.str l), some (.int (k - 1 : Nat)), some (.bool esc), none]) s ∧ JEnumS (N + 1) N l k s.heap ∧
    Step (ownG L N) [] s₀ s ∧ ∀ b, s.heap.get? b = none → s₀.heap.get? b = none

theorem callX {n : Nat} {c : Cx} {f : Value} {first : List Value} {es : List Expr} {pos : Pos} (kp : Kp c f) {A : Around} {s : Shared} {Q : Value → Shared → Prop} {E : Value → Shared → Prop}
    (key : wpAny c.M A (spliced (backTo pos (starEach es c.env))) (fun vs s' => Ext c.h₀ s'.heap ∧ wpAny c.M A (call f (first ++ vs)) Q E s') E s) (hp : (starEach es c.env).any (·.1) = false := by rfl) : wpAny c.M A (callWith pos f first (backTo pos (starEach es c.env)) []) Q E s := by
  have hp' := starless (p := pos) hp
  refine callWith_of (P := fun h => Ext c.h₀ h) (by rw [hp']; rfl) kp ?_
  revert key hp'
  generalize backTo pos (starEach es c.env) = l
  intro key hp'
  cases l with
  | nil =>
    unfold evalArgs
    show wpAny _ A (spliced [] >>= _) _ E s
    refine wpAny_bind (wpAny_mono key (fun vs s' h' => ?_) fun _ _ x => x)
    refine wpAny_bind (wpAny_pure ?_)
    refine wpAny_holding ?_
    exact wpAny_bind (wpAny_pure (wpAny_bind (wpAny_pure (wpAny_pure h'))))
  | cons a r =>
    obtain ⟨st, t⟩ := a
    simp only [List.any_cons, Bool.or_eq_false_iff] at hp'
    obtain ⟨rfl, _⟩ := hp'
    exact Calls.evalArgs_plain key
/-- data that lie in no object -/
noncomputable def D.flat : D → Bool
  | .none | .bool _ | .int _ | .str _ => true
  | _ => false
theorem Rep.flat {X Y h h' d v} (f : D.flat d = true) (r : Rep X h d v) : Rep Y h' d v := by
  cases d with
  | none => rw [Rep] at r ⊢; exact r
  | bool b => rw [Rep] at r ⊢; exact r
  | int i => rw [Rep] at r ⊢; exact r
  | str l => rw [Rep] at r ⊢; exact r
  | _ => cases f
theorem St.kept {c : Cx} {s s' : Shared} (st : St c s) (hf : ∀ (i : Nat) d, c.ds[i]? = some (some d) → d.flat = true) (k : Kept c.X s s') (own : ∀ a ∈ c.own, a ∈ c.X) (old : Ext c.h₀ s'.heap) : St c s' := by
  refine ⟨old, fun a m => let ⟨o, e⟩ := st.low a m; ⟨o, k a m o e⟩, st.len, ?_, ?_⟩
  · obtain ⟨m, hn, hm⟩ := st.ns
    exact ⟨m, hn.at' fun o e => k _ (own _ (.head _)) o e, fun i x d e1 e2 => let ⟨v, a, b⟩ := hm i x d e1 e2; ⟨v, a, b.flat (hf i d e2)⟩⟩
  · intro i x a e
    obtain ⟨ov, ⟨o, ho, hd⟩, h⟩ := st.cells i x a e
    exact ⟨ov, ⟨o, k a (own _ (.tail _ (List.mem_filterMap.mpr ⟨_, List.mem_of_getElem? e, rfl⟩))) o ho, hd⟩, fun d e => let ⟨v, a, b⟩ := h d e; ⟨v, a, b.flat (hf i d e)⟩⟩
theorem flat4 {a b c d : D} (ha : a.flat = true) (hb : b.flat = true) (hc : c.flat = true) (hd : d.flat = true) : ∀ (i : Nat) x, ([some a, some b, some c, some d] : List (Option D))[i]? = some (some x) → x.flat = true
  | 0, x, e => by cases e; exact ha
  | 1, x, e => by cases e; exact hb
  | 2, x, e => by cases e; exact hc
  | 3, x, e => by cases e; exact hd
  | i + 4, x, e => by simp at e
theorem flat3 {a b c : D} (ha : a.flat = true) (hb : b.flat = true) (hc : c.flat = true) : ∀ (i : Nat) x, ([some a, some b, some c, none] : List (Option D))[i]? = some (some x) → x.flat = true
  | 0, x, e => by cases e; exact ha
  | 1, x, e => by cases e; exact hb
  | 2, x, e => by cases e; exact hc
  | 3, x, e => by cases e
  | i + 4, x, e => by simp at e

theorem yield_at {α : Type} {all pre rest : List α} {u : α} (h : all = pre ++ u :: rest) : rest.length < all.length ∧ all[all.length - 1 - rest.length]? = some u := by
  subst h
  rw [List.length_append, List.length_cons]
  refine ⟨by lia, ?_⟩
  rw [show pre.length + (rest.length + 1) - 1 - rest.length = pre.length by lia, List.getElem?_append_right (Nat.le_refl _), Nat.sub_self]
  rfl
theorem JEnumS.keep {e I : Addr} {l : List Nat} {i : Nat} {h h' : Heap} (J : JEnumS e I l i h) (k : ∀ b o, (b = e ∨ b = I) → h.get? b = some o → h'.get? b = some o) : JEnumS e I l i h' := by
  obtain ⟨t, old, a, o, g, r⟩ := J
  exact ⟨t, old, k _ _ (.inl rfl) a, o, k _ _ (.inr rfl) g, r⟩
theorem twoVals {X h} {k : Nat} {u : List Nat} {vs : List Value} (r : RepL X h [.int k, .str u] vs) : ∃ x y, vs = [.int k x, .str ⟨u.toArray⟩ y] := by
  rw [RepL.cons_iff] at r; obtain ⟨v, r', rfl, a, b⟩ := r
  rw [RepL.cons_iff] at b; obtain ⟨v', r'', rfl, a', b'⟩ := b
  rw [RepL.nil_iff] at b'; subst b'
  obtain ⟨x, rfl⟩ := a.int_inv
  obtain ⟨y, rfl⟩ := a'.str_inv
  exact ⟨x, y, rfl⟩
noncomputable def fdAt (w : World) (a : Addr) : Option FuncData := match (KF w).lookup a with
  | some o => (match o.data with | .func fd => some fd | _ => none)
  | none => none
noncomputable abbrev genFd (w : World) : FuncData := (fdAt w 49).getD default
noncomputable abbrev genBody (w : World) : List Stmt := match (genFd w).body with | .stmts b => b | _ => []
noncomputable def nodupB : List Str → Bool
  | [] => true
  | x :: r => !r.contains x && nodupB r
theorem nodup_of : ∀ {l : List Str}, nodupB l = true → l.Nodup
  | [], _ => List.nodup_nil
  | x :: r, h => by
    rw [nodupB, Bool.and_eq_true] at h
    exact List.nodup_cons.mpr ⟨by simpa using h.1, nodup_of h.2⟩
noncomputable abbrev genC (w : World) (h₀ : Heap) (L N : Addr) (ds : List (Option D)) : Cx := genCx w h₀ (genFd w) L N ds
set_option maxRecDepth 100000 in
theorem genOk {w : World} {h₀ : Heap} (B : Base w h₀) {L N : Addr} (hL : h₀.get? L = none) (hN : ∀ b, N ≤ b → h₀.get? b = none) (ds : List (Option D)) : Ok (genC w h₀ L N ds) := by
  have nd : ((genFd w).scope.names.map (·.1)).Nodup := nodup_of (by rfl)
  refine ⟨B, rfl, rfl, rfl, fun x hx => scopeVs_loc nd hx, fun x a hx => ⟨.inl (scopeVs_cel nd hx), cellsFrom_hit nd hx⟩, scopeVs_nd nd, scopeVs_ndc, fun a m => ?_, fun a m => ?_⟩
  · rcases memc m with rfl | m
    · exact .head _
    · cases m
  · rcases memc m with rfl | m
    · exact hL
    · rcases memc m with rfl | m
      · exact hN _ (Nat.le_succ _)
      · obtain rfl := mem1 m; exact hN _ (Nat.le_refl _)

theorem noCell {vs : List (Str × Option Addr)} (h : vs.all (fun p => p.2.isNone) = true) {i : Nat} {x a} (e : vs[i]? = some (x, some a)) : False := by
  have := List.all_eq_true.mp h _ (List.mem_of_getElem? e); cases this
theorem noDatum {ds : List (Option D)} (h : ds.all (fun d => d.isNone) = true) {i : Nat} {d} (e : ds[i]? = some (some d)) : False := by
  have := List.all_eq_true.mp h _ (List.mem_of_getElem? e); cases this
set_option maxRecDepth 100000 in
theorem gen_seg {w : World} {h₀ : Heap} (B : Base w h₀) (l : List Nat) (ha : l.all (· < 128) = true)
    {A : Around} {n : Nat} (hn : 6 ≤ n) (rm : Rm (n + 1) A) {s : Shared} {L : Addr} {m : Str → Option Value} {t : Tok} (hns : s.heap.Ns L m) (hm : m "addr" = some (.str ⟨l.toArray⟩ t)) (old : Ext h₀ s.heap) (hL : h₀.get? L = none) :
    Seg (model prog w) A (gR L s.heap.objs.size) (gY h₀ L s.heap.objs.size (unitsP 0 false l)) (unitsP 0 false l).length s (.func (genBody w) (callEnvC (genFd w) L 49)) ((model prog w).den (.func (genBody w) (callEnvC (genFd w) L 49))) [] s := by
  have rmF : ∀ b e, Rm n (A.over (.func b e) []) := fun b e => rm.overFunc
  have hLN : L < s.heap.objs.size := hns.lt
  have hnew : ∀ b, s.heap.objs.size ≤ b → h₀.get? b = none := fun b hb => by
    cases e : h₀.get? b with
    | none => rfl
    | some o => exact absurd (Heap.lt_size (old _ _ e)) (Nat.not_lt.mpr hb)
  have okG : ∀ ds, Ok (genC w h₀ L s.heap.objs.size ds) := genOk B hL hnew
  refine seg_func (seg_plain (wpAny_Assign_Name (wpAny_Constant_int (wpAny_storeName_local rfl hns (fun h₁ hns₁ hs₁ => ⟨rfl, ?_⟩)))))
  refine seg_plain (wpAny_Assign_Name (wpAny_Constant_bool (wpAny_storeName_local rfl hns₁ (fun h₂ hns₂ hs₂ => ⟨rfl, ?_⟩))))
  have hN : h₂.objs.size = s.heap.objs.size := hs₂.1.trans hs₁.1
  have k2 : ∀ b o, s.heap.get? b = some o → b ≠ L → h₂.get? b = some o := fun b o e hb => hs₂.extBut b o hb (hs₁.extBut b o hb e)
  have old₂ : Ext h₀ h₂ := fun b o e => k2 b o (old b o e) (fun q => by rw [q, hL] at e; cases e)
  obtain ⟨m₂, hns₂, hm1, hm2, hm3⟩ : ∃ m₂, h₂.Ns L m₂ ∧ m₂ "addr" = some (.str ⟨l.toArray⟩ t) ∧ (∃ tk, m₂ "pos" = some (.int 0 tk)) ∧ m₂ "escape" = some (.bool false) :=
    ⟨_, hns₂, (if_neg (by decide)).trans ((if_neg (by decide)).trans hm), ⟨_, (if_neg (by decide)).trans (if_pos rfl)⟩, if_pos rfl⟩
  have okC : Ok { genC w h₀ L s.heap.objs.size [none, none, none, none] with X := [L] } := by
    refine ⟨B, rfl, rfl, rfl, (okG []).loc, (okG []).cel, (okG []).nd, (okG []).ndc, fun a m => ?_, fun a m => ?_⟩
    · rcases memc m with rfl | m
      · exact .head _
      · cases m
    · rcases memc m with rfl | m
      · exact hL
      · cases m
  have stC : ∀ s' : Shared, s'.heap = h₂ → St { genC w h₀ L s.heap.objs.size [none, none, none, none] with X := [L] } s' := fun s' e => by
    refine ⟨by rw [e]; exact old₂, fun a m => by obtain rfl := mem1 m; rw [e]; obtain ⟨o, _, _, g, _⟩ := hns₂; exact ⟨o, g⟩, rfl, ⟨_, by rw [e]; exact hns₂, fun i x d e1 e2 => ?_⟩, fun i x a e1 => ?_⟩
    · exact (noDatum rfl e2).elim
    · exact (noCell rfl e1).elim
  refine seg_execs_cons (seg_For (wpAny_Call_ofName (builtinName (c := { genC w h₀ L s.heap.objs.size [none, none, none, none] with X := [L] }) okC (stC _ rfl) Boot.enumerate ?_)))
  refine callX (c := { genC w h₀ L s.heap.objs.size [none, none, none, none] with X := [L] }) (n := n) Kp.type ?_
  refine Calls.spliced_cons (wpAny_Name (wpAny_loadName_local rfl rfl hns₂ hm1 (Calls.spliced_nil ⟨old₂, ?_⟩)) rfl)
  refine call_enumerate_str fun h₃ he hi hz hk => ?_
  replace he : IsEnum h₃ (s.heap.objs.size + 1) s.heap.objs.size 0 .none := by rw [← hN]; exact he
  replace hi : h₃.IsStrIter s.heap.objs.size (strIterType ⟨l.toArray⟩) ⟨l.toArray⟩ t 0 := by rw [← hN]; exact hi
  show wpAny _ _ (pyIter (.ref (h₂.objs.size + 1))) _ _ _
  rw [hN]
  refine wpAny_pyIter_enum he fun p => ?_
  have fr3 : ∀ b, s.heap.objs.size ≤ b → s.heap.get? b = none := fun b hb => fresh_ge hb
  have k3 : ∀ b o, s.heap.get? b = some o → b ≠ L → h₃.get? b = some o := fun b o e hb => hk b o (k2 b o e hb)
  have hty : strIterType ⟨l.toArray⟩ = "str_ascii_iterator" := by unfold strIterType; rw [if_pos (by simpa using ha)]
  rw [hty] at hi
  refine loop_down (GI w h₀ (genFd w) L s.heap.objs.size l (unitsP 0 false l)) l.length (fun k n₁ s₁ s₂ hkl hI next => ?_) l.length 0 _ _ _ (Nat.zero_add _) ⟨false, [], rfl, rfl, ?_, ⟨_, _, he, hi⟩, ?_, ?_⟩
  · obtain ⟨esc, pre, hn₁, hall, st, J, stp, pr⟩ := hI
    have fresh1 : ∀ {s' : Shared}, Step (ownG L s.heap.objs.size) [] s₂ s' → Low (ownG L s.heap.objs.size) s'.heap → ∀ b, s'.heap.get? b = none → s₁.heap.get? b = none := fun p hl b e => by
      refine pr b ?_
      cases e' : s₂.heap.get? b with
      | none => rfl
      | some o =>
        by_cases q : b ∈ ownG L s.heap.objs.size
        · obtain ⟨o', g⟩ := hl b q; rw [e] at g; cases g
        · have := p.ext b o q e'; rw [e] at this; cases this
    rcases Nat.lt_or_ge k l.length with hlt | hge
    · obtain ⟨c, hc⟩ : ∃ c, l[k]? = some c := ⟨_, List.getElem?_eq_getElem hlt⟩
      have hdrop : l.drop k = c :: l.drop (k + 1) := by
        obtain ⟨h1, h2⟩ := List.getElem?_eq_some_iff.mp hc
        rw [List.drop_eq_getElem_cons h1, h2]
      refine seg_forLoopN (enumS_next rm.overLoop.handled (Nat.succ_ne_self _) J hc fun t x y s₃ p₃ ft it₃ J₃ => ?_)
      have sub3 : ∀ a ∈ [s.heap.objs.size + 1, s.heap.objs.size], a ∈ ownG L s.heap.objs.size := fun a m => .tail _ m
      have lowE : Low [s.heap.objs.size + 1, s.heap.objs.size] s₃.heap := by
        obtain ⟨_, _, g, o, g', _⟩ := J₃
        exact Low.cons g (Low.cons g' Low.nil)
      have ownL : ∀ a ∈ (genC w h₀ L s.heap.objs.size [some (.str l), some (.int (k - 1 : Nat)), some (.bool esc), none]).own, a = L := fun a m => by
        rcases memc m with rfl | m
        · rfl
        · cases m
      have st₃ := st.step p₃ sub3 (fun a m q => by
          have hLN' := hLN
          rw [ownL a m] at q
          rcases List.mem_cons.mp q with e | q
          · rw [e] at hLN'; exact absurd hLN' (Nat.not_lt.mpr (Nat.le_succ _))
          · rw [List.mem_singleton] at q; rw [q] at hLN'; exact absurd hLN' (Nat.lt_irrefl _))
        (fun a o e q => by rw [hnew a (by
          rcases List.mem_cons.mp q with e | q
          · rw [e]; exact Nat.le_succ _
          · rw [List.mem_singleton] at q; rw [q]; exact Nat.le_refl _)] at e; cases e) lowE
      have tX : t ∉ ownG L s.heap.objs.size := fun q => by obtain ⟨o, g⟩ := st.low t q; rw [ft] at g; cases g
      refine Asg.tuple (n := n) (.cons (.name 1) (.cons (.name 3) .nil)) rfl rfl (okG _) _ s₃ _ _ _ rm.overLoop st₃ (Rep.tup' (ds := [.int k, .str [c]]) (vs := [.int k x, .str ⟨#[c]⟩ y]) tX it₃ (.cons Rep.int' (.cons (Rep.str' (l := [c])) .nil))) fun s₄ p₄ st₄ => ?_
      have wrL : ∀ a ∈ (genC w h₀ L s.heap.objs.size [some (.str l), some (.int (k - 1 : Nat)), some (.bool esc), none]).wr, a = L := fun a m => ownL a (Cx.wr_own m)
      have wrG : ∀ {ds}, ∀ a ∈ (genC w h₀ L s.heap.objs.size ds).wr, a ∈ ownG L s.heap.objs.size := fun {ds} a m => by rw [wrL a m]; exact .head _
      have nL : L ≠ s.heap.objs.size := Nat.ne_of_lt hLN
      have nL1 : L ≠ s.heap.objs.size + 1 := Nat.ne_of_lt (Nat.lt_succ_of_lt hLN)
      have keepJ : ∀ {s' s'' : Shared} {ds}, Step (genC w h₀ L s.heap.objs.size ds).wr [] s' s'' → ∀ b o, (b = s.heap.objs.size + 1 ∨ b = s.heap.objs.size) → s'.heap.get? b = some o → s''.heap.get? b = some o := fun p b o hb e => p.ext b o (fun m => by
        have := wrL b m
        rcases hb with rfl | rfl
        · exact nL1 this.symm
        · exact nL this.symm) e
      have st14 : Step (ownG L s.heap.objs.size) [] s₂ s₄ := (p₃.mono sub3 (by simp)).trans (p₄.mono wrG (by simp))
      have J₄ := J₃.keep (keepJ p₄)
      -- the loop goes on
      have go : ∀ (esc' : Bool) (pre' : List (Nat × List Nat)) (s₀' s' : Shared), unitsP 0 false l = pre' ++ unitsP (k + 1) esc' (l.drop (k + 1)) → St (genC w h₀ L s.heap.objs.size [some (.str l), some (.int k), some (.bool esc'), some (.str [c])]) s' → JEnumS (s.heap.objs.size + 1) s.heap.objs.size l (k + 1) s'.heap →
          Step (ownG L s.heap.objs.size) [] s₀' s' → (∀ b, s'.heap.get? b = none → s₀'.heap.get? b = none) → GI w h₀ (genFd w) L s.heap.objs.size l (unitsP 0 false l) (k + 1) (unitsP (k + 1) esc' (l.drop (k + 1))).length s₀' s' :=
        fun esc' pre' s₀' s' hall' st' J' p' pr' => ⟨esc', pre', rfl, hall', St.fit (ds := [some (.str l), some (.int (k + 1 - 1 : Nat)), some (.bool esc'), none]) (c := genC w h₀ L s.heap.objs.size [some (.str l), some (.int k), some (.bool esc'), some (.str [c])]) st' ⟨rfl, rfl, rfl, trivial⟩, J', p', pr'⟩
      refine seg_execs_cons (seg_If (Tv.val (n := n) (c := genC w h₀ L s.heap.objs.size [some (.str l), some (.int k), some (.bool esc), some (.str [c])]) (Ev.name 2) tr_bool rfl (okG _) _ s₄ _ _ rm.overLoop st₄ fun s₅ p₅ => ?_))
      have st₅ := st₄.pure p₅
      have J₅ := J₄.keep fun b o _ e => p₅.pure b o e
      have st15 : Step (ownG L s.heap.objs.size) [] s₂ s₅ := st14.trans p₅.up
      cases esc with
      | true =>
        rw [if_pos rfl]
        have hu : unitsP k true (l.drop k) = (k, [92, c]) :: unitsP (k + 1) false (l.drop (k + 1)) := by rw [hdrop, unitsP]
        rw [hu] at hn₁ hall
        rw [List.length_cons] at hn₁
        subst hn₁
        refine seg_execs_cons (seg_Expr_Yield rfl rfl rfl (evTuple (n := n) (c := genC w h₀ L s.heap.objs.size [some (.str l), some (.int k), some (.bool true), some (.str [c])]) (ds := [.int k, .str [92, c]]) (.cons (Ev.name 1) (.cons (Ev.bin Ev.kStr (Ev.name 3) (op_adds (by show 2 ≤ sizeLine; decide))) .nil)) (by show 2 ≤ sizeLine; decide) (okG _) rm.overLoop st₅ fun a vs s₆ p₆ fa aX ia ra => ?_))
        intro kap hkap
        obtain ⟨x', y', rfl⟩ := twoVals ra
        have st₆ := st₅.pure p₆
        refine ⟨(k, [92, c]), a, x', y', (yield_at hall).1, (yield_at hall).2, rfl, fresh1 st15 st₅.low a fa, aX, ia, stp.trans (st15.trans p₆.up), st₆.low, fun s₇ kept old₇ => hkap .none s₇ ?_⟩
        have st₇ := St.kept st₆ (flat4 rfl rfl rfl rfl) kept (okG []).own old₇
        have J₇ := J₅.keep fun b o hb e => kept b (sub3 b (by rcases hb with rfl | rfl <;> simp)) o (p₆.pure b o e)
        refine seg_plain (wpAny_Assign_Name (wpAny_Constant_bool (store (c := genC w h₀ L s.heap.objs.size [some (.str l), some (.int k), some (.bool true), some (.str [c])]) (d := .bool false) 2 rfl (okG _) st₇ Rep.bool' (.inl rfl) (by intro a h; cases h) fun s₈ p₈ st₈ => ⟨rfl, ?_⟩)))
        refine seg_execs_nil (seg_execs_nil (seg_again rfl (next _ _ _ hlt (go false (pre ++ [(k, [92, c])]) s₇ s₈ (by rw [List.append_assoc]; exact hall) st₈ (J₇.keep (keepJ p₈)) (p₈.mono wrG (by simp)) ?_))))
        intro b hb
        cases e : s₇.heap.get? b with
        | none => rfl
        | some o =>
          by_cases q : b ∈ ownG L s.heap.objs.size
          · obtain ⟨o', g⟩ := st₈.low b q; rw [hb] at g; cases g
          · have := p₈.ext b o (fun m => q (wrG b m)) e; rw [hb] at this; cases this
      | false =>
        rw [if_neg (by decide)]
        refine seg_execs_cons (seg_If (Tv.cmp (n := n) (c := genC w h₀ L s.heap.objs.size [some (.str l), some (.int k), some (.bool false), some (.str [c])]) (Ev.name 3) Ev.kStr op_eqs (by rfl) (okG _) _ s₅ _ _ rm.overLoop st₅ fun s₆ p₆ => ?_))
        have st₆ := st₅.pure p₆
        have J₆ := J₅.keep fun b o _ e => p₆.pure b o e
        have st16 : Step (ownG L s.heap.objs.size) [] s₂ s₆ := st15.trans p₆.up
        have fr16 := fresh1 st16 st₆.low
        by_cases h92 : c = 92
        · subst h92
          rw [if_pos (by decide)]
          have hu : unitsP k false (l.drop k) = unitsP (k + 1) true (l.drop (k + 1)) := by rw [hdrop, unitsP, if_pos rfl]
          rw [hu] at hn₁ hall
          subst hn₁
          refine seg_plain (wpAny_Assign_Name (wpAny_Constant_bool (store (c := genC w h₀ L s.heap.objs.size [some (.str l), some (.int k), some (.bool false), some (.str [92])]) (d := .bool true) 2 rfl (okG _) st₆ Rep.bool' (.inl rfl) (by intro a h; cases h) fun s₈ p₈ st₈ => ⟨rfl, ?_⟩)))
          refine seg_execs_nil (seg_execs_nil (seg_execs_nil (seg_again rfl (next _ _ _ hlt (go true pre s₁ s₈ hall st₈ (J₆.keep (keepJ p₈)) (stp.trans (st16.trans (p₈.mono wrG (by simp)))) ?_)))))
          intro b hb
          exact fresh1 (st16.trans (p₈.mono wrG (by simp))) st₈.low b hb
        · rw [if_neg (by intro q; exact h92 (by have q' : ([c] : List Nat) = [92] := eq_of_beq q; injection q'))]
          have hu : unitsP k false (l.drop k) = (k, [c]) :: unitsP (k + 1) false (l.drop (k + 1)) := by rw [hdrop, unitsP, if_neg h92]
          rw [hu] at hn₁ hall
          rw [List.length_cons] at hn₁
          subst hn₁
          refine seg_execs_cons (seg_Expr_Yield rfl rfl rfl (evTuple (n := n) (c := genC w h₀ L s.heap.objs.size [some (.str l), some (.int k), some (.bool false), some (.str [c])]) (ds := [.int k, .str [c]]) (.cons (Ev.name 1) (.cons (Ev.name 3) .nil)) (by show 2 ≤ sizeLine; decide) (okG _) rm.overLoop st₆ fun a vs s₇ p₇ fa aX ia ra => ?_))
          intro kap hkap
          obtain ⟨x', y', rfl⟩ := twoVals ra
          have st₇ := st₆.pure p₇
          refine ⟨(k, [c]), a, x', y', (yield_at hall).1, (yield_at hall).2, rfl, fr16 a fa, aX, ia, stp.trans (st16.trans p₇.up), st₇.low, fun s₈ kept old₈ => hkap .none s₈ ?_⟩
          have st₈ := St.kept st₇ (flat4 rfl rfl rfl rfl) kept (okG []).own old₈
          have J₈ := J₆.keep fun b o hb e => kept b (sub3 b (by rcases hb with rfl | rfl <;> simp)) o (p₇.pure b o e)
          exact seg_execs_nil (seg_execs_nil (seg_execs_nil (seg_again rfl (next _ _ _ hlt (go false (pre ++ [(k, [c])]) s₈ s₈ (by rw [List.append_assoc]; exact hall) st₈ J₈ (.refl _ _ _) fun _ h => h)))))
    · have hkl' : k = l.length := Nat.le_antisymm hkl hge
      subst hkl'
      refine seg_forLoopN (enumS_done rm.overLoop.handled (Nat.succ_ne_self _) J fun s₃ p₃ lowE => ?_)
      have sub3 : ∀ a ∈ [s.heap.objs.size + 1, s.heap.objs.size], a ∈ ownG L s.heap.objs.size := fun a m => .tail _ m
      have ownL : ∀ {ds}, ∀ a ∈ (genC w h₀ L s.heap.objs.size ds).own, a = L := fun {ds} a m => by
        rcases memc m with rfl | m
        · rfl
        · cases m
      have st₃ := st.step p₃ sub3 (fun a m q => by
          have hLN' := hLN
          rw [ownL a m] at q
          rcases List.mem_cons.mp q with e | q
          · rw [e] at hLN'; exact absurd hLN' (Nat.not_lt.mpr (Nat.le_succ _))
          · rw [List.mem_singleton] at q; rw [q] at hLN'; exact absurd hLN' (Nat.lt_irrefl _))
        (fun a o e q => by rw [hnew a (by
          rcases List.mem_cons.mp q with e | q
          · rw [e]; exact Nat.le_succ _
          · rw [List.mem_singleton] at q; rw [q]; exact Nat.le_refl _)] at e; cases e) lowE
      have st13 : Step (ownG L s.heap.objs.size) [] s₂ s₃ := p₃.mono sub3 (by simp)
      rw [List.drop_length] at hn₁ hall
      refine seg_blockNil (seg_leaf (.ok .next) ?_)
      refine seg_execs_cons (seg_If (Tv.val (n := n) (c := genC w h₀ L s.heap.objs.size [some (.str l), some (.int (l.length - 1 : Nat)), some (.bool esc), none]) (Ev.name 2) tr_bool rfl (okG _) _ s₃ _ _ (rmF _ _) st₃ fun s₅ p₅ => ?_))
      have st₅ := st₃.pure p₅
      have st15 : Step (ownG L s.heap.objs.size) [] s₂ s₅ := st13.trans p₅.up
      cases esc with
      | false =>
        rw [if_neg (by decide)]
        subst hn₁
        exact seg_execs_nil (seg_execs_nil (seg_end (.ok (.ret .none)) ⟨rfl, rfl, stp.trans st15⟩))
      | true =>
        rw [if_pos rfl]
        have hu : unitsP l.length true [] = [(l.length - 1, [92])] := by rw [unitsP]
        rw [hu] at hn₁ hall
        rw [List.length_cons, List.length_nil] at hn₁
        subst hn₁
        refine seg_execs_cons (seg_Expr_Yield rfl rfl rfl (evTuple (n := n) (c := genC w h₀ L s.heap.objs.size [some (.str l), some (.int (l.length - 1 : Nat)), some (.bool true), none]) (ds := [.int (l.length - 1 : Nat), .str [92]]) (.cons (Ev.name 1) (.cons Ev.kStr .nil)) (by show 2 ≤ sizeLine; decide) (okG _) (rmF _ _) st₅ fun a vs s₆ p₆ fa aX ia ra => ?_))
        intro kap hkap
        obtain ⟨x', y', rfl⟩ := twoVals ra
        have st₆ := st₅.pure p₆
        refine ⟨(l.length - 1, [92]), a, x', y', (yield_at hall).1, (yield_at hall).2, rfl, fresh1 st15 st₅.low a fa, aX, ia, stp.trans (st15.trans p₆.up), st₆.low, fun s₇ kept old₇ => hkap .none s₇ ?_⟩
        exact seg_execs_nil (seg_execs_nil (seg_end (.ok (.ret .none)) ⟨rfl, rfl, .refl _ _ _⟩))
  · refine ⟨fun b o e => hk b o (old₂ b o e), fun a m => ?_, rfl, ⟨m₂, hns₂.keeps hk, fun i x d e1 e2 => ?_⟩, fun i x a e1 => ?_⟩
    · rcases memc m with rfl | m
      · obtain ⟨o, _, _, g, _⟩ := hns₂; exact ⟨o, hk _ _ g⟩
      · rcases memc m with rfl | m
        · exact ⟨_, he⟩
        · obtain rfl := mem1 m
          obtain ⟨o, g, _⟩ := hi; exact ⟨o, g⟩
    · match i, e1, e2 with
      | 0, e1, e2 => cases e1; cases e2; exact ⟨_, hm1, Rep.str'⟩
      | 1, e1, e2 => cases e1; cases e2; obtain ⟨tk, hm2⟩ := hm2; exact ⟨_, hm2, Rep.int'⟩
      | 2, e1, e2 => cases e1; cases e2; exact ⟨_, hm3, Rep.bool'⟩
      | 3, e1, e2 => cases e2
    · exact (noCell rfl e1).elim
  · exact .heap fun b o n e => k3 b o e (fun q => n (by simp [q]))
  · intro b hb
    cases e : s.heap.get? b with
    | none => rfl
    | some o =>
      by_cases q : b = L
      · obtain ⟨o', _, _, g, _⟩ := hns₂
        have hb' : h₃.get? b = none := hb
        rw [q, hk _ _ g] at hb'; cases hb'
      · have hb' : h₃.get? b = none := hb
        rw [k3 b o e q] at hb'; cases hb'
end Mine
end
section
open PySem PySem.W PyProof.Rows
set_option Elab.async false
set_option linter.unusedVariables false
set_option pp.deepTerms false
set_option pp.deepTerms.threshold 4
namespace Mine

theorem pyNext_genQ {w : World} {A : Around} {E : Value → Shared → Prop} {s : Shared} {a : Addr} {g n : Nat} {gs : GenState} {P : Nat → Shared → Shared → Prop} {Y : Protocol} {Q : Option Value → Shared → Prop} (hh : A.handled = none)
    (hl : s.heap.NoLimit) (hroom : A.depth < recursionLimit)
    (hg : s.heap.IsGen a g) (hgs : s.gens[g]? = some gs)
    (hgo : gs.Goes (model prog w) A.in1 (fun n s₀ r s₁ => r = .ok (.ret .none) ∧ P n s₀ s₁) Y n (.send .none) (s.setGen g .running))
    (hY : ∀ v s₁ gs', gs'.bare = true → Y (n - 1) (s.setGen g .running) v s₁ (fun r' s'' => match n with
        | 0 => False
        | m + 1 => gs'.Goes (model prog w) A.in1 (fun n s₀ r s₁ => r = .ok (.ret .none) ∧ P n s₀ s₁) Y m r' s'') → Q (some v) (s₁.setGen g gs'))
    (hP : ∀ s₁, P n (s.setGen g .running) s₁ → ∀ h', (∀ b o, s₁.heap.get? b = some o → h'.get? b = some o) → Q none { s₁.setGen g .finished with heap := h' }) :
    wpAny (model prog w) A (pyNext (.ref a)) Q E s := by
  unfold pyNext
  refine wpAny_bind (wpAny_attempt (wpAny_callSpecial?_slot (name := Str.ofString "__next__") hg.typeIs slot_gen_next
    (wpAny_call_entry slot_gen_next hg.typeIs entry_gen_next ?_ (args_gen_next _))))
  show wpAny _ A.in1 (Builtin.Generator.genWake (.ref a) (.send .none)) _ _ s
  unfold Builtin.Generator.genWake
  refine wpAny_bind (wpAny_holding (wpAny_genNumber hg (wpAny_bind (wpAny_genState hgs ?_))))
  cases gs with
  | running => exact hgo.elim
  | finished => exact hgo.elim
  | _ =>
    refine wpAny_bind (wpAny_roomToWake hl hroom ?_)
    show wpAny _ A.in1 (.resume g (.send .none) [] _) _ _ s
    refine wpAny_resumeQ hgs hgo (fun x s₁ hx => ?_) (fun v s₁ gs' hb hv => ?_)
    · obtain ⟨rfl, hp⟩ := hx
      show wpAny _ A.in1 (newExc (.type "StopIteration") [] >>= _) _ _ _
      refine wpAny_bind ?_
      simp only [newExc, newTuple]
      refine wpAny_bind (wpAny_newObj_type ?_ (by size_fits))
      refine wpAny_bind (m := firstArgMember _ _) (wpAny_of_eq (a := Value.none) (by first | rfl | (simp only [firstArgMember]; rfl)) ?_)
      refine wpAny_newObj_type ?_ (by size_fits)
      simp only [raiseNew]
      refine wpAny_bind (wpAny_bind (wpAny_handled ?_))
      first | rw [show A.in1.handled = none from hh] | rw [hh]
      refine wpAny_throw ?_
      refine wpAny_bind (wpAny_isInstance (T := "StopIteration") (b := true) ⟨_, Heap.get?_push_size _ rfl, rfl⟩ isSubtype_stop ?_)
      exact wpAny_pure (hP s₁ hp _ fun b o hb => Heap.get?_push_of_some _ (Heap.get?_push_of_some _ hb))
    · exact wpAny_pure ⟨v, rfl, wpAny_pure (hY v s₁ gs' hb hv)⟩

theorem bare_set {gens : Array GenState} {g : Nat} {x : GenState} (h : AllBare gens) (hx : x.bare = true) : AllBare (gens.setIfInBounds g x) := by
  intro y hy
  obtain ⟨i, hi, rfl⟩ := Array.mem_iff_getElem.mp hy
  by_cases e : g = i
  · subst e; simp [hx]
  · rw [Array.getElem_setIfInBounds_ne _ e]
    exact h _ (Array.getElem_mem _)
    simpa using hi
theorem Step.gen_run {own : List Addr} {s s₁ : Shared} {g : Nat} {x : GenState} (p : Step own [] (s.setGen g .running) s₁) (hx : x.bare = true) : Step own [g] s (s₁.setGen g x) := by
  refine ⟨p.ext, p.os, fun h => bare_set (p.bare (bare_set h rfl)) hx, fun i st hi e => ?_, ?_⟩
  · have n : i ≠ g := fun q => hi (by simp [q])
    have e1 : (s.setGen g .running).gens[i]? = some st := by
      show (s.gens.setIfInBounds g .running)[i]? = _
      rw [Array.getElem?_setIfInBounds_ne (Ne.symm n)]; exact e
    show (s₁.gens.setIfInBounds g x)[i]? = _
    rw [Array.getElem?_setIfInBounds_ne (Ne.symm n)]
    exact p.gen i st (by simp) e1
  · show s.gens.size ≤ (s₁.gens.setIfInBounds g x).size
    rw [Array.size_setIfInBounds]
    have : (s.gens.setIfInBounds g .running).size ≤ s₁.gens.size := p.gsize
    rwa [Array.size_setIfInBounds] at this
end Mine
end
section
open PySem PySem.W PyProof.Rows
set_option Elab.async false
set_option linter.unusedVariables false
set_option pp.deepTerms false
set_option pp.deepTerms.threshold 4
namespace Mine

noncomputable abbrev allU (l : List Nat) : List (Nat × List Nat) := unitsP 0 false l
noncomputable def JGen (w : World) (h₀ : Heap) (A : Around) (a L : Addr) (g : Nat) (l : List Nat) (io X : List Addr) (ds : List D) (s : Shared) : Prop :=
  s.heap.IsGen a g ∧ a ≠ L ∧ Low io s.heap ∧ (∀ b ∈ io, h₀.get? b = none) ∧ (∃ k, k ≤ (allU l).length ∧ ds = ((allU l).drop k).map unitD) ∧ ∃ gs, s.gens[g]? = some gs ∧
    ((io = [a, L] ∧ ds = (allU l).map unitD ∧ ∀ s'', Kept [L] s s'' → Ext h₀ s''.heap → gs.Goes (model prog w) A.in1 (gR L s''.heap.objs.size) (gY h₀ L s''.heap.objs.size (allU l)) ds.length (.send .none) s'') ∨
     ∃ N, io = a :: ownG L N ∧ a ∉ ownG L N ∧ ∀ s'', Kept (ownG L N) s s'' → Ext h₀ s''.heap → gs.Goes (model prog w) A.in1 (gR L N) (gY h₀ L N (allU l)) ds.length (.send .none) s'')

theorem noLimit_of {w : World} {h₀ : Heap} (B : Base w h₀) {h : Heap} (old : Ext h₀ h) : h.NoLimit := by
  obtain ⟨p, loose, mg, mb, T⟩ := B.T
  exact T.nolimit.keeps old
theorem get_of_drop {α : Type} {l : List α} {k : Nat} {u : α} {r : List α} (h : l.drop k = u :: r) (hk : k ≤ l.length) : l[l.length - 1 - r.length]? = some u ∧ l.drop (k + 1) = r := by
  obtain ⟨h1, h2⟩ := drop_cons h
  have : r.length = l.length - (k + 1) := by rw [← h2, List.length_drop]
  have hlt := (List.getElem?_eq_some_iff.mp h1).1
  refine ⟨?_, h2⟩
  rw [show l.length - 1 - r.length = k by omega]
  exact h1

/-- after a yield -/
theorem JGen.after {w : World} {h₀ : Heap} {A : Around} {a L N : Addr} {g : Nat} {l : List Nat} {X : List Addr} {d : D} {ds : List D} {s s₁ : Shared} {gs gs' : GenState} {v : Value} {io : List Addr} (B : Base w h₀)
    (hg : s.heap.IsGen a g) (hgs : s.gens[g]? = some gs) (haL : a ∉ ownG L N) (old : Ext h₀ s.heap) (low : Low X s.heap) (hh₀ : ∀ b ∈ a :: ownG L N, h₀.get? b = none) (hk : ∃ k, k ≤ (allU l).length ∧ d :: ds = ((allU l).drop k).map unitD)
    (hio : ∀ b ∈ ownG L N, b ∈ io ∨ s.heap.get? b = none) (hioa : a ∈ io) (hioN : ∀ b ∈ io, b ∈ a :: ownG L N) (hb : gs'.bare = true)
    (hv : gY h₀ L N (allU l) ((d :: ds).length - 1) (s.setGen g .running) v s₁ (fun r' s'' => gs'.Goes (model prog w) A.in1 (gR L N) (gY h₀ L N (allU l)) ds.length r' s''))
    {Q : Prop} (k : Step io [g] s (s₁.setGen g gs') → (∀ b ∈ a :: ownG L N, b ∈ io ∨ s.heap.get? b = none) → (∀ b ∈ io, b ∈ a :: ownG L N) → Rep ((a :: ownG L N) ++ X) (s₁.setGen g gs').heap d v → JGen w h₀ A a L g l (a :: ownG L N) ((a :: ownG L N) ++ X) ds (s₁.setGen g gs') → Q) : Q := by
  obtain ⟨kk, hkl, hds⟩ := hk
  obtain ⟨u, t, x, y, hlt, hu, rfl, ft, tn, it, stp, lo₁, kap⟩ := hv
  cases hdr : (allU l).drop kk with
  | nil => rw [hdr] at hds; cases hds
  | cons u' r =>
    rw [hdr, List.map_cons] at hds
    injection hds with e1 e2
    obtain ⟨g1, g2⟩ := get_of_drop hdr hkl
    have hlen : (d :: ds).length - 1 = r.length := by rw [e2]; simp
    rw [hlen, g1] at hu
    cases hu
    have ft' : s.heap.get? t = none := ft
    obtain ⟨oa, nm, qn, ga, ra⟩ := hg
    have ta : t ≠ a := fun q => by rw [q, ga] at ft'; cases ft'
    have tX : t ∉ X := fun q => by obtain ⟨o, e⟩ := low t q; rw [ft'] at e; cases e
    have stp' : Step (ownG L N) [g] s (s₁.setGen g gs') := stp.gen_run hb
    have ga₁ : s₁.heap.get? a = some oa := stp.ext a oa haL ga
    have hgs₁ : (s₁.setGen g gs').gens[g]? = some gs' := by
      have h1 : s₁.gens[g]? = some .running := stp.gen g .running (by simp) (setGen_self hgs)
      exact setGen_self h1
    refine k ⟨fun b o n e => ?_, stp'.os, stp'.bare, stp'.gen, stp'.gsize⟩ (fun b m => ?_) hioN ?_ ⟨⟨oa, nm, qn, ga₁, ra⟩, fun q => haL (q ▸ List.mem_cons_self ..), ?_, hh₀, ⟨kk + 1, ?_, ?_⟩, gs', hgs₁, .inr ⟨N, rfl, haL, fun s'' kp ol => ?_⟩⟩
    · refine stp'.ext b o (fun m => ?_) e
      rcases hio b m with q | q
      · exact n q
      · rw [e] at q; cases q
    · rcases memc m with rfl | m
      · exact .inl hioa
      · exact hio b m
    · rw [e1]
      refine Rep.tup' (ds := [.int u.1, .str u.2]) (vs := [.int u.1 x, .str ⟨u.2.toArray⟩ y]) (fun q => ?_) it (.cons Rep.int' (.cons Rep.str' .nil))
      rcases List.mem_append.mp q with q | q
      · rcases List.mem_cons.mp q with q | q
        · exact ta q
        · exact tn q
      · exact tX q
    · exact Low.cons ga₁ lo₁
    · have := (List.getElem?_eq_some_iff.mp (drop_cons hdr).1).1; exact this
    · rw [g2]; exact e2
    · exact kap s'' kp ol

theorem ItK.gen {w : World} {h₀ : Heap} {A : Around} (B : Base w h₀) (tg : Expr) (a L : Addr) (g : Nat) (l : List Nat) : ItK w h₀ A tg [g] (.ref a) (JGen w h₀ A a L g l) where
  keep := by
    rintro io X ds s s' Y gs' ⟨hg, haL, lo, hn, hk, gs, hgs, h⟩ st hY ho hgd
    have keep : ∀ b ∈ io, ∀ o, s.heap.get? b = some o → s'.heap.get? b = some o := fun b m o e => st.ext b o (ho b m) e
    refine ⟨?_, haL, fun b m => let ⟨o, e⟩ := lo b m; ⟨o, keep b m o e⟩, hn, hk, gs, st.gen g gs (hgd g (by simp)) hgs, ?_⟩
    · obtain ⟨o, nm, qn, e, r⟩ := hg
      exact ⟨o, nm, qn, keep a (by rcases h with ⟨rfl, _⟩ | ⟨N, rfl, _⟩ <;> simp) o e, r⟩
    · rcases h with ⟨rfl, e, go⟩ | ⟨N, rfl, na, go⟩
      · exact .inl ⟨rfl, e, fun s'' kp ol => go s'' (fun b m o e => kp b m o (keep b (.tail _ m) o e)) ol⟩
      · exact .inr ⟨N, rfl, na, fun s'' kp ol => go s'' (fun b m o e => kp b m o (keep b (.tail _ m) o e)) ol⟩
  more := by rintro io X Z ds s h hZ; exact h
  there := by rintro io X ds s ⟨_, _, lo, _⟩; exact lo
  next := by
    rintro io X d ds s Q E ⟨hg, haL, lo, hn, hk, gs, hgs, h⟩ rm old low hoX k
    have pass : ∀ {s' : Shared} {v : Value} {Q' : Unit → Shared → Prop}, s'.heap.IsGen a g → Q' () s' → wpAny (model prog w) A (letOwnedTupleGo tg (.ref a) v) Q' E s' := fun {s' v Q'} hg' h' => by
      obtain ⟨o, nm, qn, e, hc, _⟩ := hg'
      exact letOwned_pass e hc (by decide) h'
    rcases h with ⟨rfl, e, go⟩ | ⟨N, rfl, na, go⟩
    · have hL : h₀.get? L = none := hn L (by simp)
      have fr : ∀ b, s.heap.objs.size ≤ b → s.heap.get? b = none := fun b hb => fresh_ge hb
      have there : ∀ b, s.heap.get? b = none → h₀.get? b = none := fun b e => by
        cases e' : h₀.get? b with
        | none => rfl
        | some o => have := old _ _ e'; rw [e] at this; cases this
      have na : a ∉ ownG L s.heap.objs.size := fun q => by
        obtain ⟨o, nm, qn, e, _⟩ := hg
        rcases List.mem_cons.mp q with q | q
        · exact haL q
        · rcases List.mem_cons.mp q with q | q
          · rw [q, fr _ (Nat.le_succ _)] at e; cases e
          · rw [List.mem_singleton] at q; rw [q, fr _ (Nat.le_refl _)] at e; cases e
      refine pyNext_genQ (n := (d :: ds).length) rm.handled (noLimit_of B old) rm.room hg hgs (go _ (fun b m o e => e) old) (fun v s₁ gs' hb hv => ?_) (fun s₁ hp h' hk' => absurd hp.1 (by simp))
      refine JGen.after (io := [a, L]) B hg hgs na old low (fun b m => ?_) hk (fun b m => ?_) (by simp) (fun b m => ?_) hb hv fun p q1 q2 r J => pass J.1 (k v _ (a :: ownG L s.heap.objs.size) p q1 q2 r J)
      · rcases memc m with rfl | m
        · exact hn _ (by simp)
        · rcases memc m with rfl | m
          · exact hL
          · refine there b (fr b ?_)
            rcases memc m with rfl | m
            · exact Nat.le_succ _
            · rw [List.mem_singleton] at m; rw [m]; exact Nat.le_refl _
      · rcases memc m with rfl | m
        · exact .inl (by simp)
        · refine .inr (fr b ?_)
          rcases memc m with rfl | m
          · exact Nat.le_succ _
          · rw [List.mem_singleton] at m; rw [m]; exact Nat.le_refl _
      · rcases memc m with rfl | m
        · exact .head _
        · rw [List.mem_singleton] at m; rw [m]; exact .tail _ (.head _)
    · refine pyNext_genQ (n := (d :: ds).length) rm.handled (noLimit_of B old) rm.room hg hgs (go _ (fun b m o e => e) old) (fun v s₁ gs' hb hv => ?_) (fun s₁ hp h' hk' => absurd hp.1 (by simp))
      exact JGen.after (io := a :: ownG L N) B hg hgs na old low hn hk (fun b m => .inl (.tail _ m)) (by simp) (fun b m => m) hb hv fun p q1 q2 r J => pass J.1 (k v _ (a :: ownG L N) p q1 q2 r J)
  done := by
    rintro io X s Q E ⟨hg, haL, lo, hn, hk, gs, hgs, h⟩ rm old k
    have fin : ∀ {own : List Addr} {s₁ : Shared}, Step own [] (s.setGen g .running) s₁ → (∀ b ∈ own, b ∈ io ∨ s.heap.get? b = none) → ∀ h', (∀ b o, s₁.heap.get? b = some o → h'.get? b = some o) → Step io [g] s { s₁.setGen g .finished with heap := h' } := fun {own s₁} p ho h' hk' => by
      have p' := p.gen_run (x := .finished) rfl
      refine ⟨fun b o n e => hk' b o (p'.ext b o (fun m => ?_) e), p'.os, p'.bare, p'.gen, p'.gsize⟩
      rcases ho b m with q | q
      · exact n q
      · rw [e] at q; cases q
    rcases h with ⟨rfl, e, go⟩ | ⟨N, rfl, na, go⟩
    · refine pyNext_genQ (n := 0) rm.handled (noLimit_of B old) rm.room hg hgs (go _ (fun b m o e => e) old) (fun v s₁ gs' hb hv => ?_) (fun s₁ hp h' hk' => k _ (fin hp.2 (fun b m => ?_) h' hk'))
      · obtain ⟨u, t, x, y, hlt, hu, _, _, _, _, stp, lo₁, kap⟩ := hv
        refine (kap s₁ (fun b m o e => e) (fun b o e => stp.ext b o (fun m => ?_) (old b o e))).elim
        have hb : ∀ b, s.heap.objs.size ≤ b → h₀.get? b = none := fun b hb => by
          cases e' : h₀.get? b with
          | none => rfl
          | some o => have := old _ _ e'; rw [fresh_ge hb] at this; cases this
        rcases List.mem_cons.mp m with q | m
        · rw [q, hn L (by simp)] at e; cases e
        · rcases List.mem_cons.mp m with q | m
          · rw [hb b (by rw [q]; exact Nat.le_succ _)] at e; cases e
          · rw [List.mem_singleton] at m; rw [hb b (by rw [m]; exact Nat.le_refl _)] at e; cases e
      · rcases List.mem_cons.mp m with q | m
        · rw [q]; exact .inl (by simp)
        · rcases List.mem_cons.mp m with q | m
          · rw [q]; exact .inr (fresh_ge (Nat.le_succ _))
          · rw [List.mem_singleton] at m; rw [m]; exact .inr (fresh_ge (Nat.le_refl _))
    · refine pyNext_genQ (n := 0) rm.handled (noLimit_of B old) rm.room hg hgs (go _ (fun b m o e => e) old) (fun v s₁ gs' hb hv => ?_) (fun s₁ hp h' hk' => k _ (fin hp.2 (fun b m => .inl (.tail _ m)) h' hk'))
      obtain ⟨u, t, x, y, hlt, hu, _, _, _, _, stp, lo₁, kap⟩ := hv
      exact (kap s₁ (fun b m o e => e) (fun b o e => stp.ext b o (fun m => by rw [hn b (.tail _ m)] at e; cases e) (old b o e))).elim
  self := by
    rintro io X ds s Q E ⟨hg, _⟩ rm k
    exact wpAny_pyIter_gen hg k
end Mine
end
section
open PySem PySem.W PyProof.Rows
set_option Elab.async false
set_option linter.unusedVariables false
set_option pp.deepTerms false
set_option pp.deepTerms.threshold 4
namespace Mine
theorem push_bare {gens : Array GenState} {x : GenState} (h : AllBare gens) (hx : x.bare = true) : AllBare (gens.push x) := h.push hx
set_option maxRecDepth 100000 in
theorem EvI.gen {n : Nat} {c : Cx} {e tg : Expr} {p pos : Pos} {l : List Nat} (hn : 8 ≤ n) (h : Ev n c e (.str l)) (ha : l.all (· < 128) = true) (hk : c.env.kindOf "_iter_escaped_chars" = some .globalImplicit := by rfl)
    (hp : (starEach [e] c.env).any (·.1) = false := by rfl) (hs1 : starEach [e] c.env = (false, eval e c.env) :: starEach [] c.env := by rfl) :
    EvI n c (.Call (.Name "_iter_escaped_chars" p) [e] [] pos) tg ((allU l).map unitD) := by
  intro ok A s Q E rm st kk
  refine wpAny_Call_ofName (Ev.global (a := 49) (n := n) hk (fun _ => rfl) rfl ok A s _ _ rm st fun v s₁ p₁ r₁ => ?_)
  rw [r₁.ref_inv]
  refine callW ok (Kp.fn ok (fun _ => rfl)) (Evs.cons h .nil hs1) rm (st.pure p₁) (fun vs s₂ p₂ r₂ => ?_) hp
  rw [RepL.cons_iff] at r₂; obtain ⟨v, r', rfl, av, bv⟩ := r₂
  rw [RepL.nil_iff] at bv; subst bv
  obtain ⟨t, rfl⟩ := av.str_inv
  have st₂ := (st.pure p₁).pure p₂
  obtain ⟨pp, loose, mg, mb, T⟩ := ok.base.T
  have Ks := ok.base.K.keeps st₂.old
  refine wpAny_call (codeAny_call_generator (o := _) (fd := _) (body := _) rm.room (Ks 49 _ (by rfl)) (by rfl) (by rfl) (by rfl) (by rfl) (codeRec_of Ks (by rfl)) ?_)
  refine wpAny_of_eq (a := [(Str.ofString "addr", .str ⟨l.toArray⟩ t)]) (by rfl) ?_
  refine wpAny_newFunctionEnv (by decide) (fun x hx => by obtain rfl := mem1 hx; rfl) (fun h' hns hsb => ⟨T.nolimit.keeps (fun b o e => ?_), ?_⟩)
  · exact hsb.extBut b o (fun q => by have := Heap.lt_size (st₂.old _ _ e); rw [q] at this; exact absurd this (Nat.lt_irrefl _)) (Heap.get?_push_of_some _ (st₂.old _ _ e))
  · have sz : h'.objs.size = s₂.heap.objs.size + 1 := hsb.1.trans (Heap.size_push ..)
    have up : ∀ b o, s₂.heap.get? b = some o → h'.get? b = some o := fun b o e => hsb.extBut b o (fun q => by have := Heap.lt_size e; rw [q] at this; exact absurd this (Nat.lt_irrefl _)) (Heap.get?_push_of_some _ e)
    have up' : ∀ (x : Obj) b o, s₂.heap.get? b = some o → (h'.push x).get? b = some o := fun x b o e => Heap.get?_push_of_some _ (up b o e)
    have fr : ∀ b, s₂.heap.objs.size ≤ b → s₂.heap.get? b = none := fun b hb => fresh_ge hb
    have there : ∀ b, s₂.heap.get? b = none → c.h₀.get? b = none := fun b e => by
      cases e' : c.h₀.get? b with
      | none => rfl
      | some o => have := st₂.old _ _ e'; rw [e] at this; cases this
    refine wpAny_pyIter_gen (g := s₂.gens.size) ⟨_, _, _, Heap.get?_push_size _ rfl, rfl, rfl, rfl⟩ ?_
    refine kk _ [h'.objs.size, s₂.heap.objs.size] [s₂.gens.size] _ _ (ItK.gen ok.base tg h'.objs.size s₂.heap.objs.size s₂.gens.size l) ((p₁.trans p₂).trans ?_) (fun b m => ?_) (fun g m => ?_) ?_
    · refine ⟨fun b o _ e => up' _ b o e, rfl, fun h => push_bare h rfl, fun g st hg e => ?_, ?_⟩
      · rw [Array.getElem?_push, if_neg (fun q => by
          have := (Array.getElem?_eq_some_iff.mp e).1
          rw [q] at this; exact Nat.lt_irrefl _ this)]
        exact e
      · rw [Array.size_push]; exact Nat.le_succ _
    · refine none_of_ext (p₁.trans p₂) (fr b ?_)
      rcases memc m with rfl | m
      · rw [sz]; exact Nat.le_succ _
      · rw [List.mem_singleton] at m; rw [m]; exact Nat.le_refl _
    · rw [List.mem_singleton] at m
      subst m
      cases e : s.gens[s₂.gens.size]? with
      | none => rfl
      | some x =>
        have h1 := (p₁.trans p₂).gen _ x (by simp) e
        rw [Array.getElem?_eq_none (Nat.le_refl _)] at h1; cases h1
    · obtain ⟨o, es, ep, go, hd, hkeys, hfind⟩ := id hns
      refine ⟨⟨_, _, _, Heap.get?_push_size _ rfl, rfl, rfl, rfl⟩, fun q => ?_, ?_, fun b m => ?_, ⟨0, Nat.zero_le _, by rw [List.drop_zero]⟩, _, Array.getElem?_push_size .., .inl ⟨rfl, rfl, fun s'' kp ol => ⟨rfl, ?_⟩⟩⟩
      · rw [sz] at q; exact Nat.succ_ne_self _ q
      · exact Low.cons (Heap.get?_push_size _ rfl) (Low.cons (Heap.get?_push_of_some _ go) Low.nil)
      · refine there b (fr b ?_)
        rcases memc m with rfl | m
        · rw [sz]; exact Nat.le_succ _
        · rw [List.mem_singleton] at m; rw [m]; exact Nat.le_refl _
      · rw [List.length_map]
        have hns'' : s''.heap.Ns s₂.heap.objs.size (fun x => ([(Str.ofString "addr", Value.str ⟨l.toArray⟩ t)] : List (Str × Value)).reverse.lookup x) :=
          ⟨o, es, ep, kp _ (.head _) o (Heap.get?_push_of_some _ go), hd, hkeys, hfind⟩
        have go' := gen_seg (w := c.w) ok.base l ha (A := A.in1) (n := 6) (Nat.le_refl _) (rm.less hn).in1 (s := s'') (L := s₂.heap.objs.size) (t := t) hns'' (by rfl) ol (there _ (fr _ (Nat.le_refl _)))
        exact go'
end Mine
end
section
open PySem PySem.W PyProof.Rows
set_option Elab.async false
set_option linter.unusedVariables false
namespace Mine
theorem subAt_one (l : List Nat) (c i : Nat) : Builtin.Str.subAt ⟨l.toArray⟩ ⟨#[c]⟩ i = (l[i]? == some c) := by
  show ((l.toArray.extract i (i + 1)) == #[c]) = _
  rw [Bool.eq_iff_iff]
  simp only [beq_iff_eq]
  have : l.toArray.extract i (i + 1) = #[c] ↔ List.take 1 (List.drop i l) = [c] := by simp
  rw [this]
  cases h : l.drop i with
  | nil =>
    have : l.length ≤ i := List.drop_eq_nil_iff.mp h
    rw [List.getElem?_eq_none this]; simp
  | cons x r =>
    obtain ⟨h1, _⟩ := drop_cons h
    rw [h1]; simp
/-- the loop of occurrences, one sign sought, as a fold -/
noncomputable def occStep (l : List Nat) (c n limit : Nat) (st : Array Nat × Nat) (i : Nat) : Array Nat × Nat :=
  if ((st.1.size < limit ∧ st.2 ≤ i) ∧ i + 1 ≤ n) ∧ l[i]? = some c then (st.1.push i, i + 1) else (st.1, st.2)
theorem forIn_fold {β : Type} (C : Nat → β → Prop) [∀ i s, Decidable (C i s)] (f g : Nat → β → β) : ∀ (L : List Nat) (b : β), (forIn L b (fun i s => if C i s then pure (ForInStep.yield (f i s)) else pure (ForInStep.yield (g i s))) : Id β).run = L.foldl (fun s i => if C i s then f i s else g i s) b
  | [], b => rfl
  | i :: L, b => by
    rw [List.forIn_cons, List.foldl_cons]
    by_cases h : C i b
    · simp only [h, if_true]
      exact forIn_fold C f g L _
    · simp only [h, if_false]
      exact forIn_fold C f g L _
theorem occ_fold (l : List Nat) (c limit : Nat) : Builtin.Str.occurrences ⟨l.toArray⟩ ⟨#[c]⟩ 0 (Str.length ⟨l.toArray⟩) limit = ((List.range' 0 (l.length + 1)).foldl (occStep l c l.length limit) (#[], 0)).1.toList := by
  have hl : (Str.length ⟨l.toArray⟩) = l.length := by simp [Str.length]
  unfold Builtin.Str.occurrences
  rw [hl]
  simp only [Std.Legacy.Range.forIn_eq_forIn_range']
  simp only [subAt_one]
  simp
  exact congrArg Prod.fst (forIn_fold (fun i (s : Array Nat × Nat) => ((s.1.size < limit ∧ s.2 ≤ i) ∧ i + 1 ≤ l.length) ∧ l[i]? = some c) (fun i s => (s.1.push i, i + 1)) (fun i s => (s.1, s.2)) (List.range' 0 (l.length + 1)) (#[], 0))
theorem occ_size (l : List Nat) (c limit : Nat) : ∀ (m a : Nat) (st : Array Nat × Nat), st.2 ≤ a → st.1.size ≤ limit →
    ((List.range' a m).foldl (occStep l c l.length limit) st).1.size = min limit (st.1.size + ((List.range' a m).filter fun i => l[i]? == some c).length)
  | 0, a, st, h, hs => by simp; lia
  | m + 1, a, st, h, hs => by
    rw [List.range'_succ, List.foldl_cons, List.filter_cons]
    by_cases hc : l[a]? = some c
    · have hlt := (List.getElem?_eq_some_iff.mp hc).1
      by_cases hl : st.1.size < limit
      · have e : occStep l c l.length limit st a = (st.1.push a, a + 1) := by unfold occStep; rw [if_pos ⟨⟨⟨hl, h⟩, hlt⟩, hc⟩]
        rw [e, occ_size l c limit m (a + 1) _ (Nat.le_refl _) (by simp; lia), if_pos (by simpa using hc)]
        simp; lia
      · have e : occStep l c l.length limit st a = st := by unfold occStep; rw [if_neg (fun q => hl q.1.1.1)]
        rw [e, occ_size l c limit m (a + 1) _ (by lia) hs, if_pos (by simpa using hc), List.length_cons]
        lia
    · have e : occStep l c l.length limit st a = st := by unfold occStep; rw [if_neg (fun q => hc q.2)]
      rw [e, occ_size l c limit m (a + 1) _ (by lia) hs, if_neg (by simpa using hc)]
theorem occ_count (c : Nat) : ∀ (l : List Nat), ((List.range' 0 (l.length + 1)).filter fun i => l[i]? == some c).length = l.count c
  | [] => by simp
  | x :: l => by
    rw [List.length_cons, List.range'_succ, List.filter_cons]
    have e : List.range' (0 + 1) (l.length + 1) = (List.range' 0 (l.length + 1)).map (· + 1) := by
      rw [← List.map_add_range' (a := 0 + 1) 0 (l.length + 1) 1]
      apply List.map_congr_left
      intro a _
      lia
    rw [e, List.filter_map]
    have e2 : ((fun i => (x :: l)[i]? == some c) ∘ fun x => x + 1) = fun i => l[i]? == some c := by
      funext i; simp
    rw [e2, List.count_cons, ← occ_count c l]
    by_cases hx : x = c
    · subst hx; simp
    · simp [hx]
theorem occ_one (l : List Nat) (c : Nat) : (!(Builtin.Str.occurrences ⟨l.toArray⟩ ⟨#[c]⟩ 0 (Str.length ⟨l.toArray⟩) 1).isEmpty) = l.contains c := by
  have h := occ_size l c 1 (l.length + 1) 0 (#[], 0) (Nat.le_refl _) (by simp)
  rw [occ_count] at h
  rw [occ_fold, Bool.eq_iff_iff]
  generalize (List.foldl (occStep l c l.length 1) (#[], 0) (List.range' 0 (l.length + 1))).1 = r at h
  have hc : 0 < l.count c ↔ c ∈ l := List.count_pos_iff
  have h' : r.size = min 1 (l.count c) := by simpa using h
  by_cases hm : c ∈ l
  · have := hc.mpr hm
    have hr : r.toList ≠ [] := fun q => by
      have : r.toList.length = 0 := by rw [q]; rfl
      rw [Array.length_toList] at this; lia
    have hr' : r ≠ #[] := fun q => hr (by rw [q])
    simp [hm, hr']
  · have : l.count c = 0 := by
      have := mt hc.mp hm; lia
    have hr : r.toList = [] := List.length_eq_zero_iff.mp (by rw [Array.length_toList]; lia)
    have hr' : r = #[] := by rw [← Array.toList_inj]; exact hr
    simp [hm, hr']
section
variable {n : Nat} {w : World} {l : List Nat} {c : Nat}
theorem op_inS : Op2 n w (compareOp .In) (.str [c]) (.str l) (.bool (l.contains c)) := fun X A s v₁ v₂ Q E rm lo r₁ r₂ k => by
  obtain ⟨t, rfl⟩ := r₁.str_inv; obtain ⟨u, rfl⟩ := r₂.str_inv
  refine in_str (k _ _ (.refl _ _ _) ?_)
  rw [show (⟨[c].toArray⟩ : Str) = ⟨#[c]⟩ from rfl, occ_one]
  exact Rep.bool'
theorem op_notInS : Op2 n w (compareOp .NotIn) (.str [c]) (.str l) (.bool (!l.contains c)) := fun X A s v₁ v₂ Q E rm lo r₁ r₂ k => by
  obtain ⟨t, rfl⟩ := r₁.str_inv; obtain ⟨u, rfl⟩ := r₂.str_inv
  refine notIn_str (k _ _ (.refl _ _ _) ?_)
  rw [show (⟨[c].toArray⟩ : Str) = ⟨#[c]⟩ from rfl, occ_one]
  exact Rep.bool'
end
end Mine
end
section
open PySem PySem.W PyProof.Rows
set_option Elab.async false
set_option linter.unusedVariables false
namespace Mine

/-- a list that grows: its address is one of X -/
noncomputable def LstAt (X : List Addr) (a : Addr) (ds : List D) (h : Heap) : Prop := ∃ vs : List Value, h.PlainList a vs.toArray ∧ RepL X h ds vs
theorem LstAt.ext {X a ds} {h h' : Heap} (x : LstAt X a ds h) (k : Ext h h') : LstAt X a ds h' := let ⟨vs, p, r⟩ := x; ⟨vs, p.at fun o e => k _ o e, r.ext k⟩
theorem LstAt.extX {X Y a ds} {h h' : Heap} (x : LstAt X a ds h) (k : ExtX Y h h') (n : a ∉ Y) (hY : ∀ b ∈ Y, b ∈ X) : LstAt X a ds h' :=
  let ⟨vs, p, r⟩ := x; ⟨vs, p.at fun o e => k _ o n e, r.extX (k.mono hY)⟩
theorem LstAt.less {X Y a ds} {h : Heap} (x : LstAt X a ds h) (k : ∀ b ∈ Y, b ∈ X) : LstAt Y a ds h := let ⟨vs, p, r⟩ := x; ⟨vs, p, r.less k⟩
theorem LstAt.more {X Y a ds} {h : Heap} (x : LstAt X a ds h) (k : ∀ b ∈ Y, b ∈ X ∨ h.get? b = none) : LstAt Y a ds h := let ⟨vs, p, r⟩ := x; ⟨vs, p, r.more k⟩
theorem LstAt.there {X a ds} {h : Heap} (x : LstAt X a ds h) : ∃ o, h.get? a = some o := let ⟨_, ⟨_, e⟩, _⟩ := x; ⟨_, e⟩

/-- the context with one more address out of reach -/
noncomputable abbrev Cx.plus (c : Cx) (N : Addr) : Cx := { c with X := N :: c.X }
theorem Ok.plus {c : Cx} (ok : Ok c) {N : Addr} (h : c.h₀.get? N = none) : Ok (c.plus N) :=
  ⟨ok.base, ok.kind, ok.glob, ok.blt, ok.loc, ok.cel, ok.nd, ok.ndc, fun a m => .tail _ (ok.own a m), fun a m => by
    rcases memc m with rfl | m
    · exact h
    · exact ok.new a m⟩
theorem St.plus {c : Cx} {s s' : Shared} {N : Addr} (st : St c s) (p : Pure s s') (h : s.heap.get? N = none) (hN : ∃ o, s'.heap.get? N = some o) : St (c.plus N) s' := by
  have k : ∀ {d v}, Rep c.X s.heap d v → Rep (N :: c.X) s'.heap d v := fun r => (r.more fun b hb => by
    rcases memc hb with rfl | hb
    · exact .inr h
    · exact .inl hb).ext p.pure
  have st' := st.pure p
  refine ⟨st'.old, fun a m => ?_, st.len, ?_, ?_⟩
  · rcases memc m with rfl | m
    · exact hN
    · exact st'.low a m
  · obtain ⟨m, hn, hm⟩ := st.ns
    exact ⟨m, hn.keeps p.pure, fun i x d e1 e2 => let ⟨v, a, b⟩ := hm i x d e1 e2; ⟨v, a, k b⟩⟩
  · intro i x a e
    obtain ⟨ov, ⟨o, ho, hd⟩, hv⟩ := st.cells i x a e
    exact ⟨ov, ⟨o, p.pure _ _ ho, hd⟩, fun d e => let ⟨v, a, b⟩ := hv d e; ⟨v, a, k b⟩⟩
/-- an address goes back into reach -/
theorem St.minus {c : Cx} {s : Shared} {X : List Addr} (st : St c s) (h : ∀ a ∈ X, a ∈ c.X) : St { c with X := X } s := by
  refine ⟨st.old, fun a m => st.low a (h a m), st.len, ?_, ?_⟩
  · obtain ⟨m, hn, hm⟩ := st.ns
    exact ⟨m, hn, fun i x d e1 e2 => let ⟨v, a, b⟩ := hm i x d e1 e2; ⟨v, a, b.less h⟩⟩
  · intro i x a e
    obtain ⟨ov, hc, hv⟩ := st.cells i x a e
    exact ⟨ov, hc, fun d e => let ⟨v, a, b⟩ := hv d e; ⟨v, a, b.less h⟩⟩
/-- the context in which a growing list is read as it stands -/
noncomputable abbrev Cx.frz (c : Cx) (a : Addr) (i : Nat) (ds : List D) : Cx := { c with X := c.X.filter (fun b => b != a), ds := c.ds.set i (some (.lst ds)) }
theorem Ok.frz {c : Cx} (ok : Ok c) {a : Addr} (h : a ∉ c.own) (i : Nat) (ds : List D) : Ok (c.frz a i ds) :=
  ⟨ok.base, ok.kind, ok.glob, ok.blt, ok.loc, ok.cel, ok.nd, ok.ndc, fun b m => List.mem_filter.mpr ⟨ok.own b m, by simp only [bne_iff_ne]; rintro rfl; exact h m⟩, fun b m => ok.new b (List.mem_filter.mp m).1⟩
theorem St.frz {c : Cx} {s : Shared} {a : Addr} {i : Nat} {ds : List D} (st : St c s) (L : LstAt c.X a ds s.heap) (hi : c.ds[i]? = some (some (.ref a))) : St (c.frz a i ds) s := by
  have sub : ∀ b ∈ c.X.filter (fun b => b != a), b ∈ c.X := fun b m => (List.mem_filter.mp m).1
  have na : a ∉ c.X.filter (fun b => b != a) := fun m => by have := (List.mem_filter.mp m).2; simp at this
  have hil := (List.getElem?_eq_some_iff.mp hi).1
  have ra : Rep (c.X.filter (fun b => b != a)) s.heap (.lst ds) (.ref a) := let ⟨vs, p, r⟩ := L; Rep.lst' na p (r.less sub)
  have st' := st.minus sub
  have key : ∀ (j : Nat) d, (c.ds.set i (some (.lst ds)))[j]? = some (some d) → (j = i ∧ d = .lst ds) ∨ (j ≠ i ∧ c.ds[j]? = some (some d)) := fun j d e => by
    by_cases q : j = i
    · subst q
      rw [List.getElem?_set] at e
      simp [hil] at e
      exact .inl ⟨rfl, e.symm⟩
    · rw [List.getElem?_set_ne (Ne.symm q)] at e
      exact .inr ⟨q, e⟩
  refine ⟨st'.old, st'.low, by show (c.ds.set i _).length = _; rw [List.length_set]; exact st.len, ?_, ?_⟩
  · obtain ⟨m, hn, hm⟩ := st.ns
    refine ⟨m, hn, fun j x d e1 e2 => ?_⟩
    rcases key j d e2 with ⟨rfl, rfl⟩ | ⟨q, e3⟩
    · obtain ⟨v, a1, b1⟩ := hm j x _ e1 hi
      rw [b1.ref_inv] at a1
      exact ⟨_, a1, ra⟩
    · obtain ⟨v, a1, b1⟩ := hm j x _ e1 e3
      exact ⟨v, a1, b1.less sub⟩
  · intro j x b e1
    obtain ⟨ov, hc, hv⟩ := st.cells j x b e1
    refine ⟨ov, hc, fun d e2 => ?_⟩
    rcases key j d e2 with ⟨rfl, rfl⟩ | ⟨q, e3⟩
    · obtain ⟨v, a1, b1⟩ := hv _ hi
      rw [b1.ref_inv] at a1
      exact ⟨_, a1, ra⟩
    · obtain ⟨v, a1, b1⟩ := hv _ e3
      exact ⟨v, a1, b1.less sub⟩

section
variable {n : Nat} {c : Cx} {A : Around} {s : Shared} {Q : Flow → Shared → Prop} {E : Value → Shared → Prop} {rest : List Stmt} {x : Str} {p lp apos pos spos : Pos} {e : Expr} {d : D} {w' : World} {env' : Env}
/-- x = [] -/
theorem sNewList (i : Nat) {sl} (ok : Ok c) (rm : Rm n A) (st : St c s)
    (k : ∀ N s', s.heap.get? N = none → Step c.wr [] s s' → Ok ((c.plus N).wd (c.ds.set i (some (.ref N)))) → St ((c.plus N).wd (c.ds.set i (some (.ref N)))) s' → LstAt (N :: c.X) N [] s'.heap → wpAny (model prog w') A (execs rest env') Q E s') (hi : c.vs[i]? = some (x, sl) := by rfl)
    (hk : sl = none ∨ c.env.kindOf x = some .cell := by first | exact .inl rfl | exact .inr rfl) (hle : ∀ a, sl = some a → c.env.locals ≤ a := by intro a h; cases h <;> repeat (first | exact Nat.le_refl _ | apply Nat.le_succ_of_le))
    (hsw : swapsWith (.List [] lp) (some (.Name x p)) spos.line c.env = pure false := by rfl) (he' : env' = c.env := by rfl) (hw' : w' = c.w := by rfl) :
    wpAny (model prog w') A (execs (.Assign [.Name x p] (.List [] lp) spos :: rest) env') Q E s := by
  subst he' hw'
  refine wpAny_execs_cons (wpAny_Assign_Name (List_ (Calls.spliced_nil ?_)) hsw)
  unfold newList
  refine wpAny_newObj_type ?_ (by size_fits)
  have fr := get_size s.heap
  have pp : Pure s { s with heap := s.heap.push { cls := .type "list", data := .seq ([] : List Value).toArray } } := .push
  have fr0 : c.h₀.get? s.heap.objs.size = none := by
    cases e : c.h₀.get? s.heap.objs.size with
    | none => rfl
    | some o => have := st.old _ _ e; rw [fr] at this; cases this
  have okN := ok.plus fr0
  have stN := st.plus pp fr ⟨_, Heap.get?_push_size _ rfl⟩
  refine store (c := c.plus s.heap.objs.size) (d := .ref s.heap.objs.size) i hi okN stN Rep.ref' hk hle fun s' p' st' => k s.heap.objs.size s' fr (pp.up.trans p') (okN.wd _) st' ?_
  refine LstAt.extX (Y := c.wr) ⟨[], ⟨_, Heap.get?_push_size _ rfl⟩, .nil⟩ p'.ext (fun m => ?_) (fun b m => .tail _ (ok.wr b m))
  obtain ⟨o, g⟩ := st.low _ (ok.wr _ m)
  rw [fr] at g; cases g
/-- x.append(e) -/
theorem sAppend {a : Addr} {ds : List D} (i : Nat) {sl} (ok : Ok c) (rm : Rm n A) (st : St c s) (L : LstAt c.X a ds s.heap) (ha : a ∈ c.X) (hao : a ∉ c.own) (hl : ds.length ≤ sizeLine) (he : Ev n c e d)
    (k : ∀ s', Step [a] [] s s' → St c s' → LstAt c.X a (ds ++ [d]) s'.heap → wpAny (model prog w') A (execs rest env') Q E s') (hi : c.vs[i]? = some (x, sl) := by rfl) (hd : c.ds[i]? = some (some (.ref a)) := by rfl)
    (hline : (apos.endLine == pos.line) = true := by rfl) (hx : (x == ("__debug__" : Str)) = false := by rfl) (hc : (x == ("__classdict__" : Str)) = false := by rfl) (hs1 : starEach [e] c.env = (false, eval e c.env) :: starEach [] c.env := by rfl)
    (hp : (starEach [e] c.env).any (·.1) = false := by rfl)
    (hb : attributeBase (.Name x p) "append" c.env (eval (.Name x p) c.env) = eval (.Name x p) c.env := by rfl)
    (hfew : ((backTo pos (starEach [e] c.env)).all (fun x => !x.1) && (backToKw pos (keywordEach [] c.env)).all (fun x => x.1.isSome) && decide (([e] : List Expr).length + ([] : List Keyword).length + (if ([] : List Keyword).isEmpty then 0 else 1) < 30)) = true := by rfl)
    (hii : interactive c.env = false := by rfl) (hss : swapsWith (.Call (.Attribute (.Name x p) "append" apos) [e] [] pos) none spos.line c.env = pure false := by rfl) (he' : env' = c.env := by rfl) (hw' : w' = c.w := by rfl) :
    wpAny (model prog w') A (execs (.Expr (.Call (.Attribute (.Name x p) "append" apos) [e] [] pos) spos :: rest) env') Q E s := by
  subst he' hw'
  refine wpAny_execs_cons (wpAny_Expr_any (wpAny_Call_method hb hfew hline F.plainAttrs_list slot_list_append F.type_list_append (Ev.name i hi hd hx hc ok A s _ _ rm st fun v s₁ p₁ r₁ => ?_)) hii hss)
  rw [r₁.ref_inv]
  obtain ⟨vs, pl, re⟩ := L
  have pl₁ := pl.at fun o e => p₁.pure _ o e
  refine ⟨pl₁.isList.typeIs, fun b q => ?_, ?_⟩
  · cases q; obtain ⟨m, g⟩ := pl₁; exact ⟨_, g, rfl⟩
  refine callW ok Kp.builtin (Evs.cons he .nil hs1) rm (st.pure p₁) (fun us s₂ p₂ r₂ => ?_) hp
  rw [RepL.cons_iff] at r₂; obtain ⟨u, r', rfl, au, bu⟩ := r₂
  rw [RepL.nil_iff] at bu; subst bu
  have pl₂ := pl₁.at fun o e => p₂.pure _ o e
  have st₂ := (st.pure p₁).pure p₂
  refine wpAny_list_append_plain pl₂ (fun h' pl' hs => ?_) (by rw [List.size_toArray, re.length]; exact hl)
  have q : Step [a] [] s₂ { s₂ with heap := h' } := Step.but (tk := s₂.toks) hs (by simp)
  have sub : ∀ b ∈ [a], b ∈ c.X := fun b m => by obtain rfl := mem1 m; exact ha
  refine k _ (((p₁.trans p₂).up).trans q) (st₂.step q sub (fun b m z => by obtain rfl := mem1 z; exact hao m) (fun b o e z => by obtain rfl := mem1 z; rw [ok.new _ ha] at e; cases e) ?_) ⟨vs ++ [u], by simpa using pl', ?_⟩
  · obtain ⟨m, g⟩ := pl'
    exact Low.cons g Low.nil
  · exact RepL.append (((re.ext p₁.pure).ext p₂.pure).extX (q.ext.mono sub)) (.cons (au.extX (q.ext.mono sub)) .nil)
end
end Mine
end
section
open PySem PySem.W PyProof.Rows
set_option Elab.async false
set_option linter.unusedVariables false
namespace Mine
theorem glued_fold : ∀ (ls : List (List Nat)) (acc : List Nat), ((ls.map fun l => (⟨l.toArray⟩ : Str)).foldl (fun acc p => acc ++ (⟨#[]⟩ : Str).cps ++ p.cps) acc.toArray) = (acc ++ ls.flatten).toArray
  | [], acc => by simp
  | l :: ls, acc => by
    rw [List.map_cons, List.foldl_cons, List.flatten_cons]
    have : acc.toArray ++ (⟨#[]⟩ : Str).cps ++ (⟨l.toArray⟩ : Str).cps = (acc ++ l).toArray := by simp
    rw [this, glued_fold ls (acc ++ l), List.append_assoc]
theorem join_flat (ls : List (List Nat)) : Txt.join ⟨#[]⟩ (ls.map fun l => (⟨l.toArray⟩ : Str)) = ⟨ls.flatten.toArray⟩ := by
  unfold Txt.join Builtin.Str.glued
  cases ls with
  | nil => rfl
  | cons l ls =>
    congr 1
    exact glued_fold ls l
theorem fn_join {n : Nat} {w : World} {h₀ : Heap} {ls : List (List Nat)} (hw : (ls.map (·.length)).sum + ls.length ≤ 1048576) : Fn n w h₀ (.builtin "str.join") [.str [], .lst (ls.map .str)] (.str ls.flatten) := fun X A s vs Q E rm old lo nw r k => by
  rw [RepL.cons_iff] at r; obtain ⟨v, r', rfl, a, b⟩ := r
  rw [RepL.cons_iff] at b; obtain ⟨v', r'', rfl, a', b'⟩ := b
  rw [RepL.nil_iff] at b'; subst b'
  obtain ⟨t, rfl⟩ := a.str_inv
  obtain ⟨l, vs, rfl, na, ia, ra⟩ := a'.lst_inv
  refine join_listW ia (ys := ls.map fun l => (⟨l.toArray⟩ : Str)) (by simpa using strs_of ra) (by decide) ?_ fun t' kk => k _ _ .toks ?_
  · rw [List.map_map, List.length_map]
    have : (Str.length ∘ fun l : List Nat => (⟨l.toArray⟩ : Str)) = (·.length) := by funext l; simp [Str.length]
    rw [this]; exact hw
  · rw [Rep]
    exact ⟨t', by rw [show ((⟨([] : List Nat).toArray⟩ : Str)) = ⟨#[]⟩ from rfl, join_flat]⟩
end Mine
end
section
open PySem PySem.W PyProof.Rows
set_option Elab.async false
set_option linter.unusedVariables false
set_option pp.deepTerms false
set_option pp.deepTerms.threshold 4
namespace Mine

theorem RepL.flatAll {X Y h h'} : ∀ {ds : List D} {vs}, (∀ d ∈ ds, D.flat d = true) → RepL X h ds vs → RepL Y h' ds vs
  | [], vs, _, r => by rw [RepL.nil_iff] at r; subst r; exact .nil
  | d :: ds, vs, f, r => by
    rw [RepL.cons_iff] at r
    obtain ⟨v, r', rfl, a, b⟩ := r
    exact .cons (a.flat (f d (.head _))) (RepL.flatAll (fun d m => f d (.tail _ m)) b)
/-- texts alone: they lie in no object -/
noncomputable def LstS (a : Addr) (ls : List (List Nat)) (h : Heap) : Prop := LstAt [] a (ls.map .str) h
theorem LstS.at {X a ls h} (x : LstS a ls h) : LstAt X a (ls.map .str) h := let ⟨vs, p, r⟩ := x; ⟨vs, p, r.flatAll fun d m => by obtain ⟨_, _, rfl⟩ := List.mem_map.mp m; rfl⟩
theorem LstS.of {X a ls h} (x : LstAt X a (List.map D.str ls) h) : LstS a ls h := let ⟨vs, p, r⟩ := x; ⟨vs, p, r.flatAll fun d m => by obtain ⟨_, _, rfl⟩ := List.mem_map.mp m; rfl⟩
theorem LstS.step {Y gs a ls} {s s' : Shared} (x : LstS a ls s.heap) (p : Step Y gs s s') (n : a ∉ Y) : LstS a ls s'.heap :=
  let ⟨vs, pl, r⟩ := x; ⟨vs, pl.at fun o e => p.ext _ o n e, r.flatAll fun d m => by obtain ⟨_, _, rfl⟩ := List.mem_map.mp m; rfl⟩
theorem LstS.there {a ls h} (x : LstS a ls h) : ∃ o, h.get? a = some o := LstAt.there x

/-! _strip_quoted_realnames -/
noncomputable def stepS (l : List Nat) : Nat × Option Nat × List (List Nat) → Nat × List Nat → Nat × Option Nat × List (List Nat)
  | (start, op, res), (p, u) => if u == [34] then (match op with | none => (start, some p, res) | some o => (p + 1, none, if (start : Int) != o then res ++ [(l.take o).drop start] else res)) else (start, op, res)
noncomputable def stripR (l : List Nat) (k : Nat) : Nat × Option Nat × List (List Nat) := ((allU l).take k).foldl (stepS l) (0, none, [])
noncomputable def stripV (l : List Nat) : List Nat :=
  if l.contains 34 then (if (stripR l (allU l).length).1 < l.length then (stripR l (allU l).length).2.2 ++ [l.drop (stripR l (allU l).length).1] else (stripR l (allU l).length).2.2).flatten else l
noncomputable def optD : Option Nat → D
  | none => .none
  | some k => .int k
theorem stripR_succ {l : List Nat} {k : Nat} {u : Nat × List Nat} (h : (allU l)[k]? = some u) : stripR l (k + 1) = stepS l (stripR l k) u := by
  unfold stripR
  rw [List.take_add_one, h, List.foldl_append]; rfl
theorem unitsP_len : ∀ (p : Nat) (b : Bool) (l : List Nat), (unitsP p b l).length ≤ l.length + 1
  | p, false, [] => by simp [unitsP]
  | p, true, [] => by simp [unitsP]
  | p, true, c :: r => by rw [unitsP, List.length_cons, List.length_cons]; exact Nat.succ_le_succ (unitsP_len _ _ r)
  | p, false, c :: r => by
    rw [unitsP]
    split
    · exact Nat.le_succ_of_le (unitsP_len _ _ r)
    · rw [List.length_cons, List.length_cons]; exact Nat.succ_le_succ (unitsP_len _ _ r)

theorem stepS_open {l u res} {st p : Nat} (h : (u == [34]) = true) : stepS l (st, none, res) (p, u) = (st, some p, res) := by simp only [stepS, h, if_true]
theorem stepS_close {l u res} {st p o : Nat} (h : (u == [34]) = true) : stepS l (st, some o, res) (p, u) = (p + 1, none, if (st : Int) != o then res ++ [(l.take o).drop st] else res) := by simp only [stepS, h, if_true]
theorem stepS_other {l u r} {p : Nat} (h : (u == [34]) = false) : stepS l r (p, u) = r := by obtain ⟨a, b, c⟩ := r; simp [stepS, h]
theorem stripR_len (l : List Nat) (k : Nat) : (stripR l k).2.2.length ≤ k ∧ ∀ r ∈ (stripR l k).2.2, r.length ≤ l.length := by
  induction k with
  | zero => simp [stripR]
  | succ k ih =>
    cases hu : (allU l)[k]? with
    | none =>
      have : stripR l (k + 1) = stripR l k := by unfold stripR; rw [List.take_add_one, hu]; simp
      rw [this]; exact ⟨Nat.le_succ_of_le ih.1, ih.2⟩
    | some u =>
      rw [stripR_succ hu]
      obtain ⟨p, u⟩ := u
      generalize stripR l k = r at ih
      cases h : u == [34] with
      | false => rw [stepS_other h]; exact ⟨Nat.le_succ_of_le ih.1, ih.2⟩
      | true =>
        obtain ⟨start, op, res⟩ := r
        cases op with
        | none => rw [stepS_open h]; exact ⟨Nat.le_succ_of_le ih.1, ih.2⟩
        | some o =>
          rw [stepS_close h]
          cases hs : ((start : Int) != o) with
          | false => simp only [Bool.false_eq_true, if_false]; exact ⟨Nat.le_succ_of_le ih.1, ih.2⟩
          | true =>
            simp only [if_true]
            refine ⟨by rw [List.length_append]; exact Nat.succ_le_succ ih.1, fun r m => ?_⟩
            rcases List.mem_append.mp m with m | m
            · exact ih.2 r m
            · obtain rfl := mem1 m
              rw [List.length_drop, List.length_take]
              exact Nat.le_trans (Nat.sub_le _ _) (Nat.min_le_right _ _)

theorem weight_le (ls : List (List Nat)) (b : Nat) (h : ∀ r ∈ ls, r.length ≤ b) : (ls.map (·.length)).sum + ls.length ≤ (b + 1) * ls.length := by
  induction ls with
  | nil => simp
  | cons r ls ih =>
    have h1 := h r (.head _)
    have h2 := ih fun r m => h r (.tail _ m)
    rw [List.map_cons, List.sum_cons, List.length_cons, Nat.mul_succ]
    lia
set_option maxRecDepth 100000 in
set_option maxHeartbeats 8000000 in
theorem strip_fn {w : World} {h₀ : Heap} (B : Base w h₀) {n : Nat} (hn : 9 ≤ n) (l : List Nat) (ha : l.all (· < 128) = true) (hl : l.length ≤ 100) :
    Fn (n + 1) w h₀ (.ref 56) [.str l] (.str (stripV l)) := by
  refine fn_enter (o := _) (fd := _) (body := _) (params := [Str.ofString "addr"]) B rfl rfl rfl rfl rfl rfl rfl (fun vals h => ?_) (by decide) (by decide) rfl (by decide) rfl rfl rfl rfl ?_
  · exact bindv1 h fun a => rfl
  · intro X A s L Q E ok rm st kk
    have szl : l.length ≤ sizeLine := Nat.le_trans hl (by decide)
    refine sIf ok rm st (Tv.cmp Ev.kStr (Ev.name 0) (op_notInS (c := 34) (l := l))) (fun hb s₁ p₁ st₁ => ?_) (fun hb s₁ p₁ st₁ => ?_)
    · refine sReturn ok rm st₁ (Ev.name 0) fun v s₂ p₂ r₂ => kk v s₂ (p₁.up.trans p₂.up) ?_
      have : stripV l = l := by unfold stripV; rw [if_neg (by simpa using hb)]
      rw [this]
      exact r₂.less fun b hb => List.mem_append_right _ hb
    · have hc : l.contains 34 = true := by simpa using hb
      refine sNil ?_
      refine sAssign 1 ok rm st₁ Ev.kInt fun s₂ p₂ st₂ => ?_
      refine sAssign 2 (ok.wd _) rm st₂ Ev.kNone fun s₃ p₃ st₃ => ?_
      refine sNewList 3 (ok.wd _) rm st₃ fun N s₄ fN p₄ okN st₄ L₄ => ?_
      have hlen : ((allU l).map unitD).length = (allU l).length := List.length_map ..
      have getu : ∀ (k : Nat) d, ((allU l).map unitD)[k]? = some d → ∃ u, (allU l)[k]? = some u ∧ d = unitD u := fun k d e => by
        rw [List.getElem?_map] at e
        cases q : (allU l)[k]? with
        | none => rw [q] at e; cases e
        | some u => rw [q] at e; cases e; exact ⟨u, rfl, rfl⟩
      have reslen := stripR_len l
      have nwr : N ∉ (fnCx w h₀ X _ 56 L _).wr := fun q => by
        obtain ⟨o, g⟩ := st₃.low N (ok.wr N q)
        rw [fN] at g; cases g
      have nown : N ∉ (fnCx w h₀ X _ 56 L _).own := fun q => by
        obtain ⟨o, g⟩ := st₃.low N (ok.own N q)
        rw [fN] at g; cases g
      refine sFor ((allU l).map unitD) (fun k => [some (.str l), some (.int (stripR l k).1), some (optD (stripR l k).2.1), some (.ref N), none, none]) (N :: _) (fun k s => LstS N (stripR l k).2.2 s.heap) (fun _ _ => False)
        okN rm (by lia) st₄ (EvI.gen (by lia) (Ev.name 0) ha) rfl (fun a m => .tail _ m) (fun a m => ?_) (fun s' p => LstS.step (LstS.of (ls := []) L₄) p (by simp)) (fun io hio k s' s'' gs hP p => hP.step p (fun q => ?_)) ?_ (fun _ _ _ h => h.elim) ?_
      · rcases memc m with rfl | m
        · exact .head _
        · exact .tail _ (ok.wr a m)
      · obtain ⟨o, g⟩ := L₄.there
        rw [hio _ q] at g; cases g
      · intro io k d A s₅ v Q E hd hio okT rm st₅ hP _ rv hk1 hk2
        obtain ⟨⟨p, u⟩, hu, rfl⟩ := getu k d hd
        have e := stripR_succ hu
        generalize hr : stripR l k = r at st₅ hP e okT
        obtain ⟨start, op, res⟩ := r
        have szr : (res.map D.str).length ≤ sizeLine := by
          have h1 := (stripR_len l k).1
          rw [hr] at h1
          have h2 := (List.getElem?_eq_some_iff.mp hu).1
          have h3 : (allU l).length ≤ l.length + 1 := unitsP_len 0 false l
          have h4 : (start, op, res).2.2.length = res.length := rfl
          rw [List.length_map]
          exact Nat.le_trans (show res.length ≤ 101 from Nat.le_trans h1 (by lia)) (by decide)
        refine Asg.tuple (.cons (.name 4) (.cons (.name 5) .nil)) rfl rfl okT A s₅ v _ E rm st₅ rv fun s₆ p₆ st₆ => ?_
        refine sIf (okT.wd _) rm st₆ (Tv.cmp (Ev.name 5) Ev.kStr op_eqs) (fun hb s₇ p₇ st₇ => ?_) (fun hb s₇ p₇ st₇ => ?_)
        · have hb' : (u == [34]) = true := hb
          cases op with
          | none =>
            rw [stepS_open hb'] at e
            refine sIf (okT.wd _) rm st₇ (Tv.cmp (Ev.name 2) Ev.kNone op_isNone_none) (fun _ s₈ p₈ st₈ => ?_) (fun hb2 => nomatch hb2)
            refine sAssign 2 (okT.wd _) rm st₈ (Ev.name 4) fun s₉ p₉ st₉ => sNil (sNil (sNil ?_))
            have p59 := ((p₆.trans p₇.up).trans p₈.up).trans p₉
            refine hk1 .next s₉ (.inl rfl) (p59.mono (fun a m => .tail _ m) (by simp)) (St.fit st₉ ⟨rfl, by rw [e], by rw [e]; rfl, rfl, trivial⟩) ?_
            rw [e]
            exact hP.step p59 nwr
          | some o =>
            rw [stepS_close hb'] at e
            refine sIf (okT.wd _) rm st₇ (Tv.cmp (Ev.name 2) Ev.kNone op_isNone_int) (fun hb2 => nomatch hb2) (fun _ s₈ p₈ st₈ => ?_)
            have p58 := (p₆.trans p₇.up).trans p₈.up
            refine sIf (okT.wd _) rm st₈ (Tv.cmp (Ev.name 1) (Ev.name 2) op_nei) (fun hb3 s₉ p₉ st₉ => ?_) (fun hb3 s₉ p₉ st₉ => ?_)
            · have P₉ := hP.step (p58.trans p₉.up) nwr
              refine sAppend 3 (okT.wd _) rm st₉ P₉.at (List.mem_append_right _ (.head _)) nown szr (Ev.slcS (Ev.name 0) (.yes (Ev.name 1)) (.yes (Ev.name 2)) szl) fun s₁₀ p₁₀ st₁₀ L₁₀ => ?_
              refine sNil (sAssign 1 (okT.wd _) rm st₁₀ (Ev.bin (Ev.name 4) Ev.kInt op_add) fun s₁₁ p₁₁ st₁₁ => sAssign 2 (okT.wd _) rm st₁₁ Ev.kNone fun s₁₂ p₁₂ st₁₂ => sNil (sNil (sNil ?_)))
              refine hk1 .next s₁₂ (.inl rfl) ?_ (St.fit st₁₂ ⟨rfl, by rw [e]; rfl, by rw [e]; rfl, rfl, trivial⟩) ?_
              · exact ((((p58.trans p₉.up).mono (fun a m => .tail _ m) (by simp)).trans (p₁₀.mono (fun a m => by obtain rfl := mem1 m; exact .head _) (by simp))).trans (p₁₁.mono (fun a m => .tail _ m) (by simp))).trans (p₁₂.mono (fun a m => .tail _ m) (by simp))
              · rw [e]
                have hb4 : ((start : Int) != o) = true := hb3
                simp only [hb4, if_true]
                have : LstS N (res ++ [(l.take o).drop start]) s₁₀.heap := LstS.of (by rw [List.map_append, ← sl_mid]; exact L₁₀)
                exact (this.step p₁₁ nwr).step p₁₂ nwr
            · refine sNil (sAssign 1 (okT.wd _) rm st₉ (Ev.bin (Ev.name 4) Ev.kInt op_add) fun s₁₁ p₁₁ st₁₁ => sAssign 2 (okT.wd _) rm st₁₁ Ev.kNone fun s₁₂ p₁₂ st₁₂ => sNil (sNil (sNil ?_)))
              have p512 := ((p58.trans p₉.up).trans p₁₁).trans p₁₂
              refine hk1 .next s₁₂ (.inl rfl) (p512.mono (fun a m => .tail _ m) (by simp)) (St.fit st₁₂ ⟨rfl, by rw [e]; rfl, by rw [e]; rfl, rfl, trivial⟩) ?_
              rw [e]
              have hb4 : ((start : Int) != o) = false := hb3
              simp only [hb4, Bool.false_eq_true, if_false]
              exact hP.step p512 nwr
        · have hb' : (u == [34]) = false := hb
          rw [stepS_other hb'] at e
          refine sNil (sNil ?_)
          have p57 := p₆.trans p₇.up
          refine hk1 .next s₇ (.inl rfl) (p57.mono (fun a m => .tail _ m) (by simp)) (St.fit st₇ ⟨rfl, by rw [e], by rw [e], rfl, trivial⟩) ?_
          rw [e]
          exact hP.step p57 nwr
      · intro s₅ p₅ st₅ hP
        rw [hlen] at st₅ hP
        have hV : stripV l = (if (stripR l (allU l).length).1 < l.length then (stripR l (allU l).length).2.2 ++ [l.drop (stripR l (allU l).length).1] else (stripR l (allU l).length).2.2).flatten := by unfold stripV; rw [if_pos hc]
        have hR := stripR_len l (allU l).length
        have hU : (allU l).length ≤ l.length + 1 := unitsP_len 0 false l
        generalize hr : stripR l (allU l).length = r at st₅ hP hV hR
        obtain ⟨start, op, res⟩ := r
        refine sIf (okN.wd _) rm st₅ (Tv.cmp (Ev.name 1) (Ev.callB Boot.len Kp.builtin (.cons (Ev.name 0) .nil) (fn_lens (by lia))) op_lt) (fun hb2 s₆ p₆ st₆ => ?_) (fun hb2 s₆ p₆ st₆ => ?_)
        · have hb3 : start < l.length := by have := of_decide_eq_true hb2; lia
          refine sAppend 3 (okN.wd _) rm st₆ (hP.step p₆ (by simp)).at (.head _) nown ?_ (Ev.slcS (Ev.name 0) (.yes (Ev.name 1)) .no szl) fun s₇ p₇ st₇ L₇ => sNil ?_
          · have hR1 : res.length ≤ (allU l).length := hR.1
            rw [List.length_map]
            exact Nat.le_trans (show res.length ≤ 101 by lia) (by decide)
          have p57 := (p₆.up (X := [N]) (gs := [])).trans p₇
          have q57 := p₅.trans (p57.mono (fun a m => by obtain rfl := mem1 m; exact .head _) (by simp))
          have L₈ : LstS N (res ++ [l.drop start]) s₇.heap := LstS.of (by rw [List.map_append, ← sl_from]; exact L₇)
          have st₈ := st₇.frz (i := 3) (ds := (res ++ [l.drop start]).map D.str) L₈.at rfl
          refine sReturn (n := n) (d := .str (res ++ [l.drop start]).flatten) ((okN.wd _).frz nown 3 _) rm st₈ ?_ (fun v s₉ p₉ r₉ => kk v s₉ (((p₁.up.trans p₂).trans p₃).trans (Step.unseen' (W := [N]) (gs := []) (.refl _ _ _) ((p₄.mono (fun a m => .tail _ m) (by simp)).trans (q57.trans p₉.up)) (fun a m => by obtain rfl := mem1 m; exact fN) (by simp))) ?_)
          · refine Ev.meth (T := "str") (id := "str.join") (d₀ := .str []) (ds := [.lst ((res ++ [l.drop start]).map .str)]) F.plainAttrs_str F.slot_str_join F.type_str_join mT_str Ev.kStr (.cons (Ev.name 3) .nil) (fn_join ?_)
            have hR1 : res.length ≤ (allU l).length := hR.1
            have hs := weight_le (res ++ [l.drop start]) 100 (fun r m => by
              rcases List.mem_append.mp m with m | m
              · exact Nat.le_trans (hR.2 r m) hl
              · obtain rfl := mem1 m; rw [List.length_drop]; lia)
            have hs2 : (res ++ [l.drop start]).length ≤ 102 := by rw [List.length_append, List.length_singleton]; lia
            exact Nat.le_trans hs (Nat.le_trans (Nat.mul_le_mul_left _ hs2) (by decide))
          · rw [hV, if_pos hb3]
            exact r₉.flat rfl
        · have hb3 : ¬ start < l.length := by have := of_decide_eq_false hb2; lia
          refine sNil ?_
          have q57 := p₅.trans p₆.up
          have L₈ : LstS N res s₆.heap := hP.step p₆ (by simp)
          have st₈ := st₆.frz (i := 3) (ds := res.map D.str) L₈.at rfl
          refine sReturn (n := n) (d := .str res.flatten) ((okN.wd _).frz nown 3 _) rm st₈ ?_ (fun v s₉ p₉ r₉ => kk v s₉ (((p₁.up.trans p₂).trans p₃).trans (Step.unseen' (W := [N]) (gs := []) (.refl _ _ _) ((p₄.mono (fun a m => .tail _ m) (by simp)).trans (q57.trans p₉.up)) (fun a m => by obtain rfl := mem1 m; exact fN) (by simp))) ?_)
          · refine Ev.meth (T := "str") (id := "str.join") (d₀ := .str []) (ds := [.lst (res.map .str)]) F.plainAttrs_str F.slot_str_join F.type_str_join mT_str Ev.kStr (.cons (Ev.name 3) .nil) (fn_join ?_)
            have hR1 : res.length ≤ (allU l).length := hR.1
            have hs := weight_le res 100 (fun r m => Nat.le_trans (hR.2 r m) hl)
            have hs2 : res.length ≤ 102 := by lia
            exact Nat.le_trans hs (Nat.le_trans (Nat.mul_le_mul_left _ hs2) (by decide))
          · rw [hV, if_neg hb3]
            exact r₉.flat rfl
end Mine
end
section
open PySem PySem.W PyProof.Rows
set_option Elab.async false
set_option linter.unusedVariables false
set_option pp.deepTerms false
set_option pp.deepTerms.threshold 4
namespace Mine

theorem stripR_sub (l : List Nat) (k : Nat) : ∀ r ∈ (stripR l k).2.2, ∀ x ∈ r, x ∈ l := by
  induction k with
  | zero => simp [stripR]
  | succ k ih =>
    cases hu : (allU l)[k]? with
    | none =>
      have : stripR l (k + 1) = stripR l k := by unfold stripR; rw [List.take_add_one, hu]; simp
      rw [this]; exact ih
    | some u =>
      rw [stripR_succ hu]
      obtain ⟨p, u⟩ := u
      generalize stripR l k = r at ih
      cases h : u == [34] with
      | false => rw [stepS_other h]; exact ih
      | true =>
        obtain ⟨start, op, res⟩ := r
        cases op with
        | none => rw [stepS_open h]; exact ih
        | some o =>
          rw [stepS_close h]
          cases hs : ((start : Int) != o) with
          | false => simp only [Bool.false_eq_true, if_false]; exact ih
          | true =>
            simp only [if_true]
            intro r m x hx
            rcases List.mem_append.mp m with m | m
            · exact ih r m x hx
            · obtain rfl := mem1 m
              exact List.mem_of_mem_take (List.mem_of_mem_drop hx)
theorem stripV_sub (l : List Nat) : ∀ x ∈ stripV l, x ∈ l := by
  intro x hx
  unfold stripV at hx
  split at hx
  · rw [List.mem_flatten] at hx
    obtain ⟨r, hr, hx⟩ := hx
    split at hr
    · rcases List.mem_append.mp hr with m | m
      · exact stripR_sub l _ r m x hx
      · obtain rfl := mem1 m; exact List.mem_of_mem_drop hx
    · exact stripR_sub l _ r hr x hx
  · exact hx

/-! _check_parenthesis -/
noncomputable def parB : Int → List (Nat × List Nat) → Bool
  | o, [] => o == 0
  | o, (_, u) :: r => if u == [40] then parB (o + 1) r else if u == [41] then (if o - 1 < 0 then false else parB (o - 1) r) else parB o r
noncomputable def parO (us : List (Nat × List Nat)) (k : Nat) : Int := (us.take k).foldl (fun o u => if u.2 == [40] then o + 1 else if u.2 == [41] then o - 1 else o) 0
noncomputable def checkV (l : List Nat) : Bool := parB 0 (allU (stripV l))
theorem parO_succ {us : List (Nat × List Nat)} {k : Nat} {u : Nat × List Nat} (h : us[k]? = some u) : parO us (k + 1) = if u.2 == [40] then parO us k + 1 else if u.2 == [41] then parO us k - 1 else parO us k := by
  unfold parO
  rw [List.take_add_one, h, List.foldl_append]; rfl

set_option maxRecDepth 100000 in
set_option maxHeartbeats 8000000 in
theorem check_fn {w : World} {h₀ : Heap} (B : Base w h₀) {n : Nat} (hn : 9 ≤ n) (l : List Nat) (ha : l.all (· < 128) = true) (hl : l.length ≤ 100) :
    Fn (n + 2) w h₀ (.ref 63) [.str l] (.bool (checkV l)) := by
  refine fn_enter (o := _) (fd := _) (body := _) (params := [Str.ofString "addr"]) B rfl rfl rfl rfl rfl rfl rfl (fun vals h => ?_) (by decide) (by decide) rfl (by decide) rfl rfl rfl rfl ?_
  · exact bindv1 h fun a => rfl
  · intro X A s L Q E ok rm st kk
    have has : (stripV l).all (· < 128) = true := List.all_eq_true.mpr fun x m => List.all_eq_true.mp ha x (stripV_sub l x m)
    refine sAssign 0 ok rm st (Ev.call (.cons (Ev.name 0) .nil) (strip_fn B hn l ha hl)) fun s₁ p₁ st₁ => ?_
    refine sAssign 1 (ok.wd _) rm st₁ Ev.kInt fun s₂ p₂ st₂ => ?_
    have getu : ∀ (k : Nat) d, ((allU (stripV l)).map unitD)[k]? = some d → ∃ u, (allU (stripV l))[k]? = some u ∧ d = unitD u := fun k d e => by
      rw [List.getElem?_map] at e
      cases q : (allU (stripV l))[k]? with
      | none => rw [q] at e; cases e
      | some u => rw [q] at e; cases e; exact ⟨u, rfl, rfl⟩
    refine sFor ((allU (stripV l)).map unitD) (fun k => [some (.str (stripV l)), some (.int (parO (allU (stripV l)) k)), none, none]) _ (fun k s => checkV l = parB (parO (allU (stripV l)) k) ((allU (stripV l)).drop k)) (fun v _ => checkV l = false ∧ v = .bool false)
      (ok.wd _) rm (by lia) st₂ (EvI.gen (by lia) (Ev.name 0) has) rfl (fun a m => m) ok.wr (fun s' p => rfl) (fun io hio k s' s'' gs hP p => hP) ?_ (fun v s' p hr => ?_) ?_
    · intro io k d A s₅ v Q E hd hio okT rm st₅ hP _ rv hk1 hk2
      obtain ⟨⟨p, u⟩, hu, rfl⟩ := getu k d hd
      have e := parO_succ hu
      have hdr : (allU (stripV l)).drop k = (p, u) :: (allU (stripV l)).drop (k + 1) := by
        obtain ⟨h1, h2⟩ := List.getElem?_eq_some_iff.mp hu
        rw [List.drop_eq_getElem_cons h1, h2]
      rw [hdr, parB] at hP
      generalize hr : parO (allU (stripV l)) k = o at st₅ hP e okT
      refine Asg.tuple (.cons (.name 2) (.cons (.name 3) .nil)) rfl rfl okT A s₅ v _ E rm st₅ rv fun s₆ p₆ st₆ => ?_
      refine sIf (okT.wd _) rm st₆ (Tv.cmp (Ev.name 3) Ev.kStr op_eqs) (fun hb s₇ p₇ st₇ => ?_) (fun hb s₇ p₇ st₇ => ?_)
      · have hb' : (u == [40]) = true := hb
        simp only [hb', if_true] at e hP
        refine sAug 1 (okT.wd _) rm st₇ Ev.kInt op_iadd fun s₈ p₈ st₈ => sNil (sNil ?_)
        exact hk1 .next s₈ (.inl rfl) ((p₆.trans p₇.up).trans p₈) (St.fit st₈ ⟨rfl, by rw [e], trivial⟩) (by rw [e]; exact hP)
      · have hb' : (u == [40]) = false := hb
        simp only [hb', Bool.false_eq_true, if_false] at e hP
        refine sIf (okT.wd _) rm st₇ (Tv.cmp (Ev.name 3) Ev.kStr op_eqs) (fun hc s₈ p₈ st₈ => ?_) (fun hc s₈ p₈ st₈ => ?_)
        · have hc' : (u == [41]) = true := hc
          simp only [hc', if_true] at e hP
          refine sAug 1 (okT.wd _) rm st₈ Ev.kInt op_isub fun s₉ p₉ st₉ => ?_
          refine sIf (okT.wd _) rm st₉ (Tv.cmp (Ev.name 1) Ev.kInt op_lt) (fun hd s₁₀ p₁₀ st₁₀ => ?_) (fun hd s₁₀ p₁₀ st₁₀ => ?_)
          · refine sReturn (okT.wd _) rm st₁₀ Ev.kBool fun v s₁₁ p₁₁ r₁₁ => hk2 v s₁₁ (((((p₆.trans p₇.up).trans p₈.up).trans p₉).trans p₁₀.up).trans p₁₁.up) ⟨?_, r₁₁.bool_inv⟩
            rw [hP, if_pos (of_decide_eq_true hd)]
          · refine sNil (sNil (sNil (sNil ?_)))
            exact hk1 .next s₁₀ (.inl rfl) ((((p₆.trans p₇.up).trans p₈.up).trans p₉).trans p₁₀.up) (St.fit st₁₀ ⟨rfl, by rw [e], trivial⟩) (by rw [e, hP, if_neg (of_decide_eq_false hd)])
        · have hc' : (u == [41]) = false := hc
          simp only [hc', Bool.false_eq_true, if_false] at e hP
          refine sNil (sNil (sNil ?_))
          exact hk1 .next s₈ (.inl rfl) ((p₆.trans p₇.up).trans p₈.up) (St.fit st₈ ⟨rfl, by rw [e], trivial⟩) (by rw [e]; exact hP)
    · refine kk v s' ((p₁.trans p₂).trans p) ?_
      rw [hr.1, hr.2]; exact Rep.bool'
    · intro s₅ p₅ st₅ hP
      rw [List.length_map] at st₅ hP
      rw [List.drop_length] at hP
      refine sReturn (ok.wd _) rm st₅ (Ev.cmp (Ev.name 1) Ev.kInt op_eqi) fun v s₆ p₆ r₆ => kk v s₆ (((p₁.trans p₂).trans p₅).trans p₆.up) ?_
      rw [hP]
      exact r₆.flat rfl
end Mine
end
section
open PySem PySem.W PyProof.Rows
set_option Elab.async false
set_option linter.unusedVariables false
namespace Mine

/-- a dict that grows: its address is one of X -/
noncomputable def MapAt (a : Addr) (f : Int → Option Int) (n : Nat) (h : Heap) : Prop := ∃ g, h.IntMap a g ∧ h.DictLe a n ∧ ∀ k, (∀ i, f k = some i → ∃ t, g k = some (.int i t))
theorem MapAt.step {Y gs a f n} {s s' : Shared} (x : MapAt a f n s.heap) (p : Step Y gs s s') (h : a ∉ Y) : MapAt a f n s'.heap := by
  obtain ⟨g, ⟨o, es, ep, ho, hr⟩, dl, y⟩ := x
  exact ⟨g, ⟨o, es, ep, p.ext _ _ h ho, hr⟩, dl.of_same ho (p.ext _ _ h ho), y⟩
theorem MapAt.there {a f n} {h : Heap} (x : MapAt a f n h) : ∃ o, h.get? a = some o := let ⟨_, ⟨o, _, _, e, _⟩, _⟩ := x; ⟨o, e⟩

section
variable {n : Nat} {c : Cx} {A : Around} {s : Shared} {Q : Flow → Shared → Prop} {E : Value → Shared → Prop} {rest : List Stmt} {x : Str} {p lp apos pos spos : Pos} {e : Expr} {d : D} {w' : World} {env' : Env}
/-- x = {} -/
theorem sNewDict (i : Nat) {sl} (ok : Ok c) (rm : Rm n A) (st : St c s)
    (k : ∀ N s', s.heap.get? N = none → Step c.wr [] s s' → Ok ((c.plus N).wd (c.ds.set i (some (.ref N)))) → St ((c.plus N).wd (c.ds.set i (some (.ref N)))) s' → MapAt N (fun _ => none) 0 s'.heap → wpAny (model prog w') A (execs rest env') Q E s') (hi : c.vs[i]? = some (x, sl) := by rfl)
    (hk : sl = none ∨ c.env.kindOf x = some .cell := by first | exact .inl rfl | exact .inr rfl) (hle : ∀ a, sl = some a → c.env.locals ≤ a := by intro a h; cases h <;> repeat (first | exact Nat.le_refl _ | apply Nat.le_succ_of_le))
    (hsw : swapsWith (.Dict [] [] lp) (some (.Name x p)) spos.line c.env = pure false := by rfl) (he' : env' = c.env := by rfl) (hw' : w' = c.w := by rfl) :
    wpAny (model prog w') A (execs (.Assign [.Name x p] (.Dict [] [] lp) spos :: rest) env') Q E s := by
  subst he' hw'
  refine wpAny_execs_cons (wpAny_Assign_Name (wpAny_Dict_empty ?_) hsw)
  have fr := get_size s.heap
  have pp : Pure s { s with heap := s.heap.push { cls := .type "dict", data := .dict #[] } } := .push
  have fr0 : c.h₀.get? s.heap.objs.size = none := by
    cases e : c.h₀.get? s.heap.objs.size with
    | none => rfl
    | some o => have := st.old _ _ e; rw [fr] at this; cases this
  have okN := ok.plus fr0
  have stN := st.plus pp fr ⟨_, Heap.get?_push_size _ rfl⟩
  refine store (c := c.plus s.heap.objs.size) (d := .ref s.heap.objs.size) i hi okN stN Rep.ref' hk hle fun s' p' st' => k s.heap.objs.size s' fr (pp.up.trans p') (okN.wd _) st' ?_
  refine MapAt.step ⟨_, Heap.IntMap.new _, Heap.DictLe.new _, fun k i h => nomatch h⟩ p' (fun m => ?_)
  obtain ⟨o, g⟩ := st.low _ (ok.wr _ m)
  rw [fr] at g; cases g
/-- x[e] = v -/
theorem sSetItem {a : Addr} {f : Int → Option Int} {m : Nat} {value slice : Expr} {kk i : Int} (j : Nat) {sl} (ok : Ok c) (rm : Rm n A) (st : St c s) (L : MapAt a f m s.heap) (ha : a ∈ c.X) (hao : a ∉ c.own) (hl : m ≤ sizeLine) (hv : Ev n c value (.int i)) (hk : Ev n c slice (.int kk))
    (k : ∀ s', Step [a] [] s s' → St c s' → MapAt a (fun x => if x = kk then some i else f x) (m + 1) s'.heap → wpAny (model prog w') A (execs rest env') Q E s') (hj : c.vs[j]? = some (x, sl) := by rfl) (hd : c.ds[j]? = some (some (.ref a)) := by rfl)
    (hx : (x == ("__debug__" : Str)) = false := by rfl) (hc : (x == ("__classdict__" : Str)) = false := by rfl)
    (hss : swapsWith value (some (.Subscript (.Name x p) slice pos)) spos.line c.env = pure false := by rfl) (he' : env' = c.env := by rfl) (hw' : w' = c.w := by rfl) :
    wpAny (model prog w') A (execs (.Assign [.Subscript (.Name x p) slice pos] value spos :: rest) env') Q E s := by
  subst he' hw'
  refine wpAny_execs_cons (wpAny_Assign_Subscript (hv ok A s _ _ rm st fun v s₁ p₁ r₁ => Ev.name j hj hd hx hc ok A s₁ _ _ rm (st.pure p₁) fun ov s₂ p₂ r₂ => hk ok A s₂ _ _ rm ((st.pure p₁).pure p₂) fun iv s₃ p₃ r₃ => ?_) hss)
  rw [r₂.ref_inv]
  obtain ⟨t, rfl⟩ := r₁.int_inv
  obtain ⟨u, rfl⟩ := r₃.int_inv
  have st₃ := ((st.pure p₁).pure p₂).pure p₃
  have L₃ := MapAt.step (Y := []) L ((p₁.trans p₂).trans p₃) (by simp)
  obtain ⟨g, im, dl, y⟩ := L₃
  refine wpAny_setItem_intMap_le im dl hl fun h' im' dl' hs => ?_
  have q : Step [a] [] s₃ { s₃ with heap := h', toks := s₃.toks + 1 } := Step.but hs (by simp)
  have sub : ∀ b ∈ [a], b ∈ c.X := fun b m => by obtain rfl := mem1 m; exact ha
  refine k _ ((((p₁.trans p₂).trans p₃).up).trans q) (st₃.step q sub (fun b m z => by obtain rfl := mem1 z; exact hao m) (fun b o e z => by obtain rfl := mem1 z; rw [ok.new _ ha] at e; cases e) ?_) ⟨_, im', dl', fun x i' h => ?_⟩
  · obtain ⟨o, es, ep, g, _⟩ := im'
    exact Low.cons g Low.nil
  · dsimp only at h ⊢
    split at h
    · rename_i hx; rw [if_pos hx]; cases h; exact ⟨_, rfl⟩
    · rename_i hx; rw [if_neg hx]; exact y x i' h
end

section
variable {n : Nat} {c : Cx} {value slice : Expr} {pos : Pos} {w : World}
theorem item_map {f : Int → Option Int} {k i : Int} (h : f k = some i) : Op2 n w getItem (.map f) (.int k) (.int i) := fun X A s v₁ v₂ Q E rm lo r₁ r₂ kk => by
  obtain ⟨a, g, rfl, na, im, y⟩ := r₁.map_inv
  obtain ⟨t, rfl⟩ := r₂.int_inv
  obtain ⟨u, hu⟩ := y k i h
  exact wpAny_getItem_intMap im hu (kk _ _ .toks Rep.int')
theorem Ev.getM {f : Int → Option Int} {k i : Int} (hv : Ev n c value (.map f)) (hs : Ev n c slice (.int k)) (h : f k = some i)
    (hq : ∀ v i, subscripted slice false v i = operate [v, i] (getItem v i) := by intro _ _; with_unfolding_all rfl) : Ev n c (.Subscript value slice pos) (.int i) :=
  .sub hv hs (fun X s v r => by obtain ⟨a, g, rfl, na, im, y⟩ := r.map_inv; exact im.typeIs) slot_dict_getitem.lookup (item_map h) hq
end

section
variable {n : Nat} {c : Cx} {test : Expr} {body rest : List Stmt} {pos : Pos} {A : Around} {s₀ : Shared} {Q : Flow → Shared → Prop} {E : Value → Shared → Prop}
theorem sWhile {w' : World} {env' : Env} (F : Nat → List (Option D)) (N : Nat) (Z : List Addr) (P : Nat → Shared → Prop)
    (ok : Ok c) (rm : Rm n A) (st : St c s₀) (hZw : ∀ a ∈ c.wr, a ∈ Z) (hF : F 0 = c.ds) (hP0 : P 0 s₀) (hP : ∀ k s s', P k s → Pure s s' → P k s')
    (ht : ∀ j, j ≤ N → Tv n (c.wd (F j)) test (decide (j < N)))
    (turn : ∀ (j : Nat) (A : Around) (s : Shared) (Q : Flow → Shared → Prop) (E : Value → Shared → Prop), j < N → Ok (c.wd (F j)) → Rm n A → St (c.wd (F j)) s → P j s → Step Z [] s₀ s →
      (∀ f s', (f = .next ∨ f = .cont) → Step Z [] s s' → St (c.wd (F (j + 1))) s' → P (j + 1) s' → Q f s') → wpAny (model prog w') A (execs body env') Q E s)
    (k : ∀ s', Step Z [] s₀ s' → St (c.wd (F N)) s' → P N s' → wpAny (model prog w') A (execs rest env') Q E s') (he' : env' = c.env := by rfl) (hw' : w' = c.w := by rfl) :
    wpAny (model prog w') A (execs (.While test body [] pos :: rest) env') Q E s₀ := by
  subst he' hw'
  refine wpAny_execs_cons (wpAny_While (codeAny_whileLoop (fun m s => ∃ j, m = N - j ∧ j ≤ N ∧ St (c.wd (F j)) s ∧ P j s ∧ Step Z [] s₀ s) ?_ N ⟨0, rfl, Nat.zero_le _, by rw [hF]; exact st, hP0, .refl _ _ _⟩))
  rintro m s ⟨j, rfl, hj, stj, hPj, hst⟩
  refine ht j hj (ok.wd _) A s _ _ rm stj fun s₁ p₁ => ?_
  have st₁ := stj.pure p₁
  have hP₁ := hP j _ _ hPj p₁
  have hst₁ := hst.trans p₁.up
  by_cases hlt : j < N
  · rw [if_pos (by simpa using hlt)]
    refine turn j A s₁ _ _ hlt (ok.wd _) rm st₁ hP₁ hst₁ fun f s₂ hf p₂ st₂ hP₂ => ?_
    rcases hf with rfl | rfl <;> exact ⟨N - (j + 1), by lia, j + 1, rfl, hlt, st₂, hP₂, hst₁.trans p₂⟩
  · rw [if_neg (by simpa using hlt)]
    have : j = N := by lia
    subst this
    exact wpAny_execs_nil (k s₁ hst₁ st₁ hP₁)
end
end Mine
end
section
open PySem PySem.W PyProof.Rows
set_option Elab.async false
set_option linter.unusedVariables false
set_option pp.deepTerms false
set_option pp.deepTerms.threshold 4
namespace Mine

noncomputable def isMate (us : List (List Nat)) (i j : Nat) : Bool := (us.getD j [] == [41]) && checkV ((us.take (j + 1)).drop i).flatten
noncomputable def firsts (us : List (List Nat)) : List Nat := (List.range us.length).filter fun k => us.getD k [] == [40]
noncomputable def mapD (us : List (List Nat)) (m : Nat → Nat) : Int → Option Int := fun x => if 0 ≤ x ∧ us[x.toNat]? = some [40] then some (m x.toNat : Int) else none
noncomputable def enF : D → Option D
  | .tup [.int i, .str u] => if u == [40] then some (.int i) else none
  | _ => none
theorem MapAt.weak {a f f' n} {h : Heap} (x : MapAt a f n h) (k : ∀ y i, f' y = some i → f y = some i) : MapAt a f' n h := let ⟨g, a1, a2, y⟩ := x; ⟨g, a1, a2, fun z i e => y z i (k z i e)⟩
theorem MapAt.le {a f n m} {h : Heap} (x : MapAt a f n h) (k : n ≤ m) : MapAt a f m h := let ⟨g, a1, a2, y⟩ := x; ⟨g, a1, a2.mono k, y⟩
theorem enumD_length : ∀ (ds : List D) (i : Nat), (enumD i ds).length = ds.length
  | [], i => rfl
  | d :: ds, i => by rw [enumD, List.length_cons, List.length_cons, enumD_length ds (i + 1)]
theorem enumD_mem : ∀ (us : List (List Nat)) (i : Nat) (d : D), d ∈ enumD i (us.map D.str) → ∃ k u, us[k]? = some u ∧ d = .tup [.int (i + k : Nat), .str u]
  | [], i, d, h => nomatch h
  | u :: us, i, d, h => by
    rw [List.map_cons, enumD] at h
    rcases memc h with rfl | h
    · exact ⟨0, u, rfl, rfl⟩
    · obtain ⟨k, u', e, rfl⟩ := enumD_mem us (i + 1) d h
      exact ⟨k + 1, u', e, by rw [show i + 1 + k = i + (k + 1) by lia]⟩
theorem enumD_firsts : ∀ (us : List (List Nat)) (i : Nat), (enumD i (us.map D.str)).filterMap enF = ((List.range us.length).filter fun k => us.getD k [] == [40]).map fun k : Nat => D.int ((i + k : Nat) : Int)
  | [], i => rfl
  | u :: us, i => by
    rw [List.map_cons, enumD, List.filterMap_cons, enumD_firsts us (i + 1), List.length_cons, List.range_succ_eq_map, List.filter_cons, List.filter_map, List.getD_cons_zero]
    have e : enF (.tup [.int i, .str u]) = if u == [40] then some (.int i) else none := rfl
    rw [e]
    have e2 : ((fun k => (u :: us).getD k [] == [40]) ∘ Nat.succ) = fun k => us.getD k [] == [40] := by funext k; rfl
    rw [e2]
    have e3 : ∀ (L : List Nat), L.map (fun k : Nat => D.int ((i + 1 + k : Nat) : Int)) = (L.map Nat.succ).map (fun k : Nat => D.int ((i + k : Nat) : Int)) := fun L => by
      rw [List.map_map]; apply List.map_congr_left; intro k _; show D.int _ = D.int _; congr 2; lia
    rw [e3]
    cases h : u == [40]
    · simp
    · simp

set_option maxRecDepth 100000 in
set_option maxHeartbeats 8000000 in
theorem mates_fn {w : World} {h₀ : Heap} (B : Base w h₀) {n : Nat} (hn : 9 ≤ n) (us : List (List Nat)) (m : Nat → Nat) (hu : us.length ≤ 40) (ha : us.flatten.all (· < 128) = true) (hl : us.flatten.length ≤ 100)
    (hm : ∀ i, us[i]? = some [40] → i + 2 ≤ m i ∧ m i < us.length ∧ isMate us i (m i) = true ∧ ∀ j, i + 2 ≤ j → j < m i → isMate us i j = false) :
    Fn (n + 3) w h₀ (.ref 122) [strsD us] (.map (mapD us m)) := by
  refine fn_enter (o := _) (fd := _) (body := _) (params := [Str.ofString "units"]) B rfl rfl rfl rfl rfl rfl rfl (fun vals h => ?_) (by decide) (by decide) rfl (by decide) rfl rfl rfl rfl ?_
  · exact bindv1 h fun a => rfl
  · intro X A s L Q E ok rm st kk
    refine sNewDict 1 ok rm st fun N s₁ fN p₁ okN st₁ L₁ => ?_
    have nwr : N ∉ (fnCx w h₀ X _ 122 L _).wr := fun q => by
      obtain ⟨o, g⟩ := st.low N (ok.wr N q)
      rw [fN] at g; cases g
    have nown : N ∉ (fnCx w h₀ X _ 122 L _).own := fun q => by
      obtain ⟨o, g⟩ := st.low N (ok.own N q)
      rw [fN] at g; cases g
    have nX : N ∉ X := fun q => by
      obtain ⟨o, g⟩ := st.low N (List.mem_append_right _ q)
      rw [fN] at g; cases g
    have hF : (enumD 0 (us.map D.str)).filterMap enF = (firsts us).map fun k : Nat => D.int k := by
      rw [enumD_firsts]
      apply List.map_congr_left
      intro k _
      rw [Nat.zero_add]
    refine sFor ((firsts us).map fun k : Nat => D.int k) (fun k => [some (strsD us), some (.ref N), none, none]) (N :: _) (fun k s => MapAt N (fun x => if x ∈ ((firsts us).take k).map Int.ofNat then some (m x.toNat : Int) else none) k s.heap) (fun _ _ => False)
      okN rm (by lia) st₁ (EvI.lst (Ev.cast (Ev.lc enF (CompOk.of []) (by lia) (EvI.enum (Ev.name 0)) ?_ ?_) (congrArg D.lst hF))) rfl (fun a m => .tail _ m) (fun a m => ?_) (fun s' p => ?_) (fun io hio k s' s'' gs hP p => hP.step p (fun q => ?_)) ?_ (fun _ _ _ h => h.elim) ?_
    · rw [enumD_length, List.length_map]; exact Nat.le_trans hu (by decide)
    · intro io N' d hd
      obtain ⟨k, u, _, rfl⟩ := enumD_mem us 0 d hd
      exact CTurn.keep (b := u == [40]) (Asg.tuple (.cons (.name 1) (.cons (.name 2) .nil))) (Tv.cmp (Ev.name 2) Ev.kStr op_eqs) (fun _ => Ev.name 1)
    · rcases memc m with rfl | m
      · exact .head _
      · exact .tail _ (ok.wr a m)
    · exact MapAt.weak (MapAt.step L₁ p (by simp)) (fun y i h => by simp at h)
    · obtain ⟨o, g⟩ := L₁.there
      rw [hio _ q] at g; cases g
    · intro io k d A s₅ v Q E hd hio okT rm st₅ hP _ rv hk1 hk2
      obtain ⟨first, hfi, rfl⟩ : ∃ first, (firsts us)[k]? = some first ∧ d = .int first := by
        rw [List.getElem?_map] at hd
        cases q : (firsts us)[k]? with
        | none => rw [q] at hd; cases hd
        | some x => rw [q] at hd; cases hd; exact ⟨x, rfl, rfl⟩
      have hf40 : us[first]? = some [40] := by
        have h1 := (List.mem_filter.mp (List.mem_of_getElem? hfi))
        have h2 := List.mem_range.mp h1.1
        have h3 : us.getD first [] = [40] := by simpa using h1.2
        rw [List.getD_eq_getElem?_getD, List.getElem?_eq_getElem h2] at h3
        rw [List.getElem?_eq_getElem h2]; exact congrArg some h3
      obtain ⟨hm1, hm2, hm3, hm4⟩ := hm first hf40
      refine Asg.name (n := n + 2) 2 rfl (.inl rfl) (fun _ h => nomatch h) okT A s₅ v _ E rm st₅ rv fun s₆ p₆ st₆ => ?_
      refine sAssign 3 (okT.wd _) rm st₆ (Ev.bin (Ev.name 2) Ev.kInt op_add) fun s₇ p₇ st₇ => ?_
      refine sWhile (n := n + 2) (fun j => [some (strsD us), some (.ref N), some (.int first), some (.int ((first + 2 + j : Nat) : Int))]) (m first - (first + 2)) _ (fun _ _ => True) (okT.wd _) rm st₇ (fun _ h => h) rfl trivial (fun _ _ _ _ _ => trivial) (fun j hj => ?_) ?_ ?_
      · have hlt : first + 2 + j < us.length := by lia
        have hsl : sl (some (first : Int)) (some (((first + 2 + j : Nat) : Int) + 1)) (us.map D.str) = ((us.take (first + 2 + j + 1)).drop first).map D.str := by
          rw [show (((first + 2 + j : Nat) : Int) + 1) = ((first + 2 + j + 1 : Nat) : Int) by lia, sl_mid, List.map_drop, List.map_take]
        have hsub : ∀ x ∈ ((us.take (first + 2 + j + 1)).drop first), x ∈ us := fun x hx => List.mem_of_mem_take (List.mem_of_mem_drop hx)
        have hlen : ((us.take (first + 2 + j + 1)).drop first).flatten.length ≤ 100 := by
          have h1 : us.flatten = (us.take first).flatten ++ (((us.take (first + 2 + j + 1)).drop first).flatten ++ (us.drop (first + 2 + j + 1)).flatten) := by
            rw [← List.flatten_append, ← List.flatten_append]
            congr 1
            have h2 : (us.take (first + 2 + j + 1)).take first ++ (us.take (first + 2 + j + 1)).drop first = us.take (first + 2 + j + 1) := List.take_append_drop ..
            rw [List.take_take, Nat.min_eq_left (by lia)] at h2
            rw [← List.append_assoc, h2, List.take_append_drop]
          have := congrArg List.length h1
          rw [List.length_append, List.length_append] at this
          lia
        have hasc : ((us.take (first + 2 + j + 1)).drop first).flatten.all (· < 128) = true := by
          rw [List.all_eq_true] at ha ⊢
          intro x hx
          obtain ⟨u, hu', hxu⟩ := List.mem_flatten.mp hx
          exact ha x (List.mem_flatten.mpr ⟨u, hsub u hu', hxu⟩)
        have hval : ((us.getD (first + 2 + j) [] != [41]) || (checkV ((us.take (first + 2 + j + 1)).drop first).flatten != true)) = decide (j < m first - (first + 2)) := by
          have hi : isMate us first (first + 2 + j) = decide (¬ j < m first - (first + 2)) := by
            by_cases q : j < m first - (first + 2)
            · rw [hm4 _ (by lia) (by lia)]; simp [q]
            · rw [show first + 2 + j = m first by lia, hm3]; simp [q]
          unfold isMate at hi
          rw [decide_not] at hi
          rw [← Bool.not_not (decide (j < m first - (first + 2))), ← hi, Bool.not_and]
          rw [show (us.getD (first + 2 + j) [] != [41]) = !(us.getD (first + 2 + j) [] == [41]) from rfl]
          cases checkV ((us.take (first + 2 + j + 1)).drop first).flatten <;> rfl
        refine Tv.cast (Tv.or (Tv.cmp (Ev.atM (f := D.str) [] (Ev.name 0) (Ev.name 3) hlt (by lia)) Ev.kStr op_nes) (fun _ => Tv.cmp (Ev.call (.cons (Ev.meth (T := "str") (id := "str.join") (d₀ := .str []) (ds := [.lst (((us.take (first + 2 + j + 1)).drop first).map .str)]) F.plainAttrs_str F.slot_str_join F.type_str_join mT_str Ev.kStr
          (.cons (Ev.cast (Ev.slc (Ev.name 0) (.yes (Ev.name 2)) (.yes (Ev.bin (Ev.name 3) Ev.kInt op_add)) (by rw [List.length_map]; exact Nat.le_trans hu (by decide))) (congrArg D.lst hsl)) .nil) (fn_join ?_)) .nil) (check_fn B hn _ hasc hlen)) Ev.kBool op_isNot_bool)) hval
        rw [← List.length_flatten]
        have h3 : ((us.take (first + 2 + j + 1)).drop first).length ≤ 40 := by rw [List.length_drop, List.length_take]; lia
        lia
      · intro j A s₈ Q E hj ok8 rm st₈ _ p₈ k8
        refine sAug 3 ok8 rm st₈ Ev.kInt op_iadd fun s₉ p₉ st₉ => sNil ?_
        exact k8 .next s₉ (.inl rfl) p₉ st₉ trivial
      · intro s₈ p₈ st₈ _
        have p58 := (p₆.trans p₇).trans p₈
        have L₈ := hP.step p58 nwr
        refine sSetItem 1 (okT.wd _) rm st₈ L₈ (List.mem_append_right _ (.head _)) nown ?_ (Ev.name 3) (Ev.name 2) fun s₉ p₉ st₉ L₉ => sNil ?_
        · have h1 := (List.getElem?_eq_some_iff.mp hfi).1
          have h2 : (firsts us).length ≤ us.length := by unfold firsts; exact Nat.le_trans (List.length_filter_le _ _) (by rw [List.length_range]; exact Nat.le_refl _)
          exact Nat.le_trans (show k ≤ 40 by lia) (by decide)
        · refine hk1 .next s₉ (.inl rfl) ((p58.mono (fun a m => .tail _ m) (by simp)).trans (p₉.mono (fun a m => by obtain rfl := mem1 m; exact .head _) (by simp))) (St.fit st₉ ⟨rfl, rfl, trivial⟩) (L₉.weak fun y i h => ?_)
          rw [List.take_add_one, hfi, Option.toList_some, List.map_append, List.map_singleton] at h
          split at h
          · rename_i hy
            rcases List.mem_append.mp hy with hy | hy
            · by_cases hyf : y = (first : Int)
              · rw [if_pos hyf]; subst hyf
                rw [Int.toNat_natCast] at h
                rw [← h]; congr 1; lia
              · rw [if_neg hyf, if_pos hy]; exact h
            · rw [List.mem_singleton] at hy
              have hyf : y = (first : Int) := hy
              rw [if_pos hyf]; subst hyf
              rw [Int.toNat_natCast] at h
              rw [← h]; congr 1; lia
          · cases h
    · intro s₅ p₅ st₅ hP
      have hP' := hP.weak (f' := mapD us m) (fun y i h => by
        unfold mapD at h
        split at h
        · rename_i hy
          obtain ⟨h0, h4⟩ := hy
          have hlt := (List.getElem?_eq_some_iff.mp h4).1
          have hmem : y.toNat ∈ firsts us := by
            unfold firsts
            refine List.mem_filter.mpr ⟨List.mem_range.mpr hlt, ?_⟩
            rw [List.getD_eq_getElem?_getD, h4]; rfl
          have : y ∈ ((firsts us).take ((firsts us).map fun k : Nat => D.int k).length).map Int.ofNat := by
            rw [List.length_map, List.take_length]
            exact List.mem_map.mpr ⟨y.toNat, hmem, Int.toNat_of_nonneg h0⟩
          rw [if_pos this]; exact h
        · cases h)
      refine sReturn (okN.wd _) rm st₅ (Ev.name 1) fun v s₆ p₆ r₆ => kk v s₆ (Step.unseen' (W := [N]) (gs := []) p₁ (p₅.trans p₆.up) (fun a m => by obtain rfl := mem1 m; exact fN) (by simp)) ?_
      rw [r₆.ref_inv]
      obtain ⟨g, im, _, y⟩ := MapAt.step (Y := []) hP' p₆ (by simp)
      exact Rep.map' nX im y
end Mine
end
section
open PySem PySem.W PyProof.Rows
set_option Elab.async false
set_option linter.unusedVariables false
set_option pp.deepTerms false
set_option pp.deepTerms.threshold 4
namespace Mine

noncomputable abbrev Rd := Nat × Nat × List (List Nat) × List (List Nat)
noncomputable def readF (us : List (List Nat)) (m : Nat → Nat) : Nat → Nat → Nat → Rd
  | 0, _, _ => (0, 1, [], [])
  | f + 1, i, b => if i = b then (0, 1, [], []) else
    let r1 := readF us m f (i + 2) (m i)
    let r2 := readF us m f (m i + 1) b
    (r1.1 + (r2.1 + 1), (r1.1 + (r2.1 + 1)) * r1.2.1 * r2.2.1, r1.2.2.1 ++ r2.2.2.1 ++ [us.getD (i + 1) []], r2.2.2.2 ++ r1.2.2.2 ++ [us.getD (i + 1) []])
noncomputable def okRead (us : List (List Nat)) (m : Nat → Nat) : Nat → Nat → Nat → Bool
  | 0, i, b => i == b
  | f + 1, i, b => i == b ||
    (let r1 := readF us m f (i + 2) (m i)
     let r2 := readF us m f (m i + 1) b
     us.getD i [] == [40] && decide (i + 1 < us.length) && decide (r1.1 + (r2.1 + 1) < 2 ^ 60) && decide ((r1.1 + (r2.1 + 1)) * r1.2.1 < 2 ^ 60) && decide (r1.2.2.1.length + r2.2.2.1.length < 1000) && decide (r2.2.2.2.length + r1.2.2.2.length < 1000) &&
     okRead us m f (i + 2) (m i) && okRead us m f (m i + 1) b)
noncomputable abbrev readD (r : Rd) : D := .tup [.int r.1, .int r.2.1, strsD r.2.2.1, strsD r.2.2.2]

set_option maxRecDepth 100000 in
set_option maxHeartbeats 8000000 in
theorem read_nil {w : World} {h₀ : Heap} (B : Base w h₀) (us : List (List Nat)) (m : Nat → Nat) {n : Nat} (hn : 4 ≤ n) (i : Nat) :
    Fn (n + 1) w h₀ (.ref 129) [strsD us, .map (mapD us m), .int i, .int i] (readD (0, 1, [], [])) := by
  refine fn_enter (o := _) (fd := _) (body := _) (params := [Str.ofString "units", Str.ofString "mates", Str.ofString "first", Str.ofString "behind"]) B rfl rfl rfl rfl rfl rfl rfl (fun vals h => ?_) (by decide) (by decide) rfl (by decide) rfl rfl rfl rfl ?_
  · exact bindv4 h fun a b c d => rfl
  · intro X A s L Q E ok rm st kk
    refine sIf ok rm st (Tv.cmp (Ev.name 2) (Ev.name 3) op_eqi) (fun hb s₁ p₁ st₁ => ?_) (fun hb s₁ p₁ st₁ => absurd hb (by simp))
    refine sReturn ok rm st₁ (Ev.tuple (.cons Ev.kInt (.cons Ev.kInt (.cons (Ev.list .nil) (.cons (Ev.list .nil) .nil)))) (by show 4 ≤ sizeLine; decide)) fun v s₂ p₂ r₂ => kk v s₂ (p₁.up.trans p₂.up) (r₂.less fun b hb => List.mem_append_right _ hb)

set_option maxRecDepth 100000 in
set_option maxHeartbeats 8000000 in
theorem read_fn {w : World} {h₀ : Heap} (B : Base w h₀) (us : List (List Nat)) (m : Nat → Nat) (hu : us.length ≤ 100) : ∀ (f i b : Nat), okRead us m f i b = true →
    Fn (f + 5) w h₀ (.ref 129) [strsD us, .map (mapD us m), .int i, .int b] (readD (readF us m f i b)) := by
  intro f
  induction f with
  | zero =>
    intro i b h
    have : i = b := by simpa [okRead] using h
    subst this
    exact read_nil B us m (by lia) i
  | succ f ih =>
    intro i b h
    by_cases hib : i = b
    · subst hib
      rw [readF, if_pos rfl]
      exact read_nil B us m (by lia) i
    · rw [okRead] at h
      have hne : (i == b) = false := by simpa using hib
      rw [hne, Bool.false_or] at h
      simp only [Bool.and_eq_true, decide_eq_true_eq] at h
      obtain ⟨⟨⟨⟨⟨⟨⟨h40, h1⟩, h2⟩, h3⟩, h4⟩, h5⟩, h6⟩, h7⟩ := h
      have h40' : us[i]? = some [40] := by
        have h40' : us.getD i [] = [40] := by simpa using h40
        rw [List.getD_eq_getElem?_getD, List.getElem?_eq_getElem (by lia)] at h40'
        rw [List.getElem?_eq_getElem (by lia)]; exact congrArg some h40'
      have hmap : mapD us m i = some (m i : Int) := by
        unfold mapD
        rw [if_pos ⟨Int.natCast_nonneg _, by rw [Int.toNat_natCast]; exact h40'⟩, Int.toNat_natCast]
      rw [readF, if_neg hib]
      have f1 := ih (i + 2) (m i) h6
      have f2 := ih (m i + 1) b h7
      generalize readF us m f (i + 2) (m i) = r1 at *
      generalize readF us m f (m i + 1) b = r2 at *
      obtain ⟨s1, w1, l1, g1⟩ := r1
      obtain ⟨s2, w2, l2, g2⟩ := r2
      refine fn_enter (o := _) (fd := _) (body := _) (params := [Str.ofString "units", Str.ofString "mates", Str.ofString "first", Str.ofString "behind"]) B rfl rfl rfl rfl rfl rfl rfl (fun vals h => ?_) (by decide) (by decide) rfl (by decide) rfl rfl rfl rfl ?_
      · exact bindv4 h fun a b c d => rfl
      · intro X A s L Q E ok rm st kk
        refine sIf ok rm st (Tv.cmp (Ev.name 2) (Ev.name 3) op_eqi) (fun hb s₁ p₁ st₁ => absurd hb (by simp; lia)) (fun hb s₁ p₁ st₁ => ?_)
        refine sNil (sAssignT ok rm st₁ (Ev.call (.cons (Ev.name 0) (.cons (Ev.name 1) (.cons (Ev.bin (Ev.name 2) Ev.kInt op_add) (.cons (Ev.getM (Ev.name 1) (Ev.name 2) hmap) .nil)))) f1) (Asg.tuple (.cons (.name 4) (.cons (.name 5) (.cons (.name 6) (.cons (.name 7) .nil))))) fun s₂ p₂ st₂ => ?_)
        refine sAssignT (ok.wd _) rm st₂ (Ev.call (.cons (Ev.name 0) (.cons (Ev.name 1) (.cons (Ev.bin (Ev.getM (Ev.name 1) (Ev.name 2) hmap) Ev.kInt op_add) (.cons (Ev.name 3) .nil)))) f2) (Asg.tuple (.cons (.name 8) (.cons (.name 9) (.cons (.name 10) (.cons (.name 11) .nil))))) fun s₃ p₃ st₃ => ?_
        refine sAug 4 (ok.wd _) rm st₃ (Ev.bin (Ev.name 8) Ev.kInt op_add) op_iadd fun s₄ p₄ st₄ => ?_
        have hat : (1 : Nat) = 1 := rfl
        refine sReturn (ok.wd _) rm st₄ (Ev.tuple (ds := [.int ((s1 : Int) + ((s2 : Int) + 1)), .int (((s1 : Int) + ((s2 : Int) + 1)) * w1 * w2), .lst (l1.map .str ++ l2.map .str ++ [.str (us.getD (i + 1) [])]), .lst (g2.map .str ++ g1.map .str ++ [.str (us.getD (i + 1) [])])])
          (.cons (Ev.name 4) (.cons (Ev.bin (Ev.bin (Ev.name 4) (Ev.name 5) (op_mul ?_ ?_)) (Ev.name 9) (op_mul ?_ ?_)) (.cons (Ev.bin (Ev.bin (Ev.name 6) (Ev.name 10) (op_addl ?_)) (Ev.list (.cons (Ev.atM (f := D.str) (k := i + 1) [] (Ev.name 0) (Ev.bin (Ev.name 2) Ev.kInt op_add) h1 (by lia)) .nil) (by show 1 ≤ sizeLine; decide)) (op_addl ?_))
            (.cons (Ev.bin (Ev.bin (Ev.name 11) (Ev.name 7) (op_addl ?_)) (Ev.list (.cons (Ev.atM (f := D.str) (k := i + 1) [] (Ev.name 0) (Ev.bin (Ev.name 2) Ev.kInt op_add) h1 (by lia)) .nil) (by show 1 ≤ sizeLine; decide)) (op_addl ?_)) .nil)))) (by show 4 ≤ sizeLine; decide))
          fun v s₅ p₅ r₅ => kk v s₅ ((((p₁.up.trans p₂).trans p₃).trans p₄).trans p₅.up) ?_
        · simp only at h2; lia
        · simp only at h2; lia
        · have e : ((s1 : Int) + (s2 + 1)) * w1 = (((s1 + (s2 + 1)) * w1 : Nat) : Int) := by push_cast; rfl
          rw [e]; lia
        · have e : ((s1 : Int) + (s2 + 1)) * w1 = (((s1 + (s2 + 1)) * w1 : Nat) : Int) := by push_cast; rfl
          rw [e]; simp only at h3; lia
        · simp only at h4
          rw [List.length_map, List.length_map]; exact Nat.le_trans (Nat.le_of_lt h4) (by decide)
        · simp only at h4
          rw [List.length_append, List.length_map, List.length_map]; exact Nat.le_trans (show _ ≤ 1000 by simp; lia) (by decide)
        · simp only at h5
          rw [List.length_map, List.length_map]; exact Nat.le_trans (Nat.le_of_lt h5) (by decide)
        · simp only at h5
          rw [List.length_append, List.length_map, List.length_map]; exact Nat.le_trans (show _ ≤ 1000 by simp; lia) (by decide)
        · have e1 : ((s1 + (s2 + 1) : Nat) : Int) = (s1 : Int) + (s2 + 1) := by push_cast; rfl
          have e2 : ((((s1 + (s2 + 1)) * w1 * w2 : Nat)) : Int) = ((s1 : Int) + (s2 + 1)) * w1 * w2 := by push_cast; rfl
          unfold readD strsD
          rw [e1, e2, List.map_append, List.map_append, List.map_append, List.map_append]
          exact r₅.less fun b hb => List.mem_append_right _ hb
end Mine
end
section
open PySem PySem.W PyProof.Rows
set_option Elab.async false
set_option linter.unusedVariables false
namespace Mine
noncomputable def isStrV (l : List Nat) : Value → Bool
  | .str y _ => y.cps.toList == l
  | _ => false
theorem eq_isStr {X h} {ls : List (List Nat)} {vs : List Value} {l : List Nat} {t : Tok} (r : RepL X h (ls.map .str) vs) : ∀ y ∈ vs, PySem.MeetsSeq.EqGives y (.str ⟨l.toArray⟩ t) (isStrV l y) := by
  induction ls generalizing vs with
  | nil => intro y hy; rw [List.map_nil, RepL.nil_iff] at r; subst r; cases hy
  | cons u ls ih =>
    intro y hy
    rw [List.map_cons, RepL.cons_iff] at r
    obtain ⟨v, r', rfl, a, b⟩ := r
    rcases memc hy with rfl | hy
    · obtain ⟨x, rfl⟩ := a.str_inv
      exact PySem.SeqRoads2.EqGives.str _ _ _ _
    · exact ih b y hy
theorem isStr_at {X h} {ls : List (List Nat)} {vs : List Value} {l : List Nat} (r : RepL X h (ls.map .str) vs) {j : Nat} {u : List Nat} (e : ls[j]? = some u) : ∃ v, vs[j]? = some v ∧ isStrV l v = (u == l) := by
  obtain ⟨v, e', r'⟩ := r.get (show (ls.map D.str)[j]? = some (.str u) by rw [List.getElem?_map, e]; rfl)
  obtain ⟨x, rfl⟩ := r'.str_inv
  exact ⟨_, e', rfl⟩
theorem isStr_any {X h} : ∀ {ls : List (List Nat)} {vs : List Value} {l : List Nat}, RepL X h (ls.map .str) vs → vs.any (isStrV l) = ls.contains l
  | [], vs, l, r => by rw [List.map_nil, RepL.nil_iff] at r; subst r; rfl
  | u :: ls, vs, l, r => by
    rw [List.map_cons, RepL.cons_iff] at r
    obtain ⟨v, r', rfl, a, b⟩ := r
    obtain ⟨x, rfl⟩ := a.str_inv
    rw [List.any_cons, isStr_any b, List.contains_cons]
    show ((u == l) || _) = _
    rw [show (u == l) = (l == u) from BEq.comm]
section
variable {n : Nat} {w : World} {l : List Nat} {ls : List (List Nat)} {h₀ : Heap}
theorem op_notInL : Op2 n w (compareOp .NotIn) (.str l) (strsD ls) (.bool (!ls.contains l)) := fun X A s v₁ v₂ Q E rm lo r₁ r₂ k => by
  obtain ⟨t, rfl⟩ := r₁.str_inv
  obtain ⟨a, vs, rfl, na, ia, ra⟩ := r₂.lst_inv
  refine SeqInW.notIn_listW (isStrV l) (fun y hy => eq_isStr ra y (by simpa using hy)) ia (k _ _ (.refl _ _ _) ?_)
  rw [← Array.any_toList, show vs.toArray.toList = vs from rfl, isStr_any ra]
  exact Rep.bool'
theorem op_notInT {i : Int} {ns : List Int} : Op2 n w (compareOp .NotIn) (.int i) (.tup (ns.map .int)) (.bool (!ns.any (· == i))) := fun X A s v₁ v₂ Q E rm lo r₁ r₂ k => by
  obtain ⟨t, rfl⟩ := r₁.int_inv
  obtain ⟨a, vs, rfl, na, ia, ra⟩ := r₂.tup_inv
  exact notin_tuple_ints ia (by simpa using ints_of ra) (k _ _ (.refl _ _ _) Rep.bool')
theorem fn_index {j : Nat} (hj : ls[j]? = some l) (hno : ∀ m, m < j → ls[m]? ≠ some l) (hz : ls.length ≤ 2 ^ 30) : Fn n w h₀ (.builtin "list.index") [strsD ls, .str l] (.int j) := fun X A s vs Q E rm old lo nw r k => by
  rw [RepL.cons_iff] at r; obtain ⟨v, r', rfl, a, b⟩ := r
  rw [RepL.cons_iff] at b; obtain ⟨v', r'', rfl, a', b'⟩ := b
  rw [RepL.nil_iff] at b'; subst b'
  obtain ⟨t, rfl⟩ := a'.str_inv
  obtain ⟨ad, vs, rfl, na, ia, ra⟩ := a.lst_inv
  obtain ⟨⟨cls, dd, data, sl⟩, ho, hc, n', hd⟩ := id ia
  simp only at hc hd
  subst hc hd
  have hlen := ra.length
  have hjl := (List.getElem?_eq_some_iff.mp hj).1
  rw [List.length_map] at hlen
  refine call_meets PySem.F.slot_list_index ⟨_, ho, rfl⟩ PySem.F.entry_list_index (PySem.F.args_list_index_2 _ _)
    (SeqAt.list_indexAt ad vs.toArray n' dd sl (.str ⟨l.toArray⟩ t) (isStrV l) j (by simp; lia) (by lia) ?_ ?_) ⟨ho, fun y hy => (eq_isStr ra y (by simpa using hy)).at _ _, k _ _ .toks Rep.int'⟩
  · obtain ⟨v, e, h⟩ := isStr_at (l := l) ra hj
    have : vs.toArray[j]'(by simp; lia) = v := by
      obtain ⟨h1, h2⟩ := List.getElem?_eq_some_iff.mp e
      simpa using h2
    rw [this, h]; simp
  · intro m hm hlt
    have hml : m < ls.length := by lia
    obtain ⟨v, e, h⟩ := isStr_at (l := l) ra (List.getElem?_eq_getElem hml)
    have : vs.toArray[m] = v := by
      obtain ⟨h1, h2⟩ := List.getElem?_eq_some_iff.mp e
      simpa using h2
    rw [this, h]
    have := hno m hlt
    rw [List.getElem?_eq_getElem hml] at this
    simpa using this
end
end Mine
end
section
open PySem PySem.W PyProof.Rows
set_option Elab.async false
set_option linter.unusedVariables false
set_option pp.deepTerms false
set_option pp.deepTerms.threshold 4
namespace Mine

noncomputable def turnC (us : List (List Nat)) (f : Nat) (lower : List Nat) : Bool := (us.take (f + 4)).drop (f + 3) == [lower]
noncomputable def turnF (us : List (List Nat)) (m : Nat → Nat) (f : Nat) (upper lower : List Nat) : List (List Nat) :=
  if turnC us f lower then
    us.take f ++ [[40], lower] ++ (us.take (m (f + 2) + 1)).drop (f + 4) ++ [[40], upper] ++ us.drop (m (f + 2) + 1)
  else
    us.take f ++ [[40], lower] ++ (us.take (m f + 1)).drop f ++ (us.take (m (m f + 1))).drop (m f + 3) ++ [[41]] ++ us.drop (m (m f + 1) + 1)
theorem mapD_at {us : List (List Nat)} {m : Nat → Nat} {i : Nat} (h : us[i]? = some [40]) : mapD us m i = some (m i : Int) := by
  unfold mapD
  rw [if_pos ⟨Int.natCast_nonneg _, by rw [Int.toNat_natCast]; exact h⟩, Int.toNat_natCast]
theorem sl_a {us : List (List Nat)} {a b : Nat} {x y : Int} (hx : x = a) (hy : y = b) : D.lst (sl (some x) (some y) (us.map D.str)) = strsD ((us.take b).drop a) := by
  subst hx hy
  rw [sl_mid, ← List.map_take, ← List.map_drop]
theorem sl_b {us : List (List Nat)} {a : Nat} {x : Int} (hx : x = a) : D.lst (sl (some x) none (us.map D.str)) = strsD (us.drop a) := by
  subst hx
  rw [sl_from, ← List.map_drop]
theorem sl_c {us : List (List Nat)} {b : Nat} {y : Int} (hy : y = b) : D.lst (sl none (some y) (us.map D.str)) = strsD (us.take b) := by
  subst hy
  rw [sl_to, ← List.map_take]

theorem Ev.addS {n : Nat} {c : Cx} {a b : Expr} {pos : Pos} {l1 l2 : List (List Nat)} (h1 : Ev n c a (strsD l1)) (h2 : Ev n c b (strsD l2)) (hl : l1.length + l2.length ≤ 1000) : Ev n c (.BinOp a .Add b pos) (strsD (l1 ++ l2)) := by
  refine Ev.cast (Ev.bin h1 h2 (op_addl ?_)) (congrArg D.lst (List.map_append ..).symm)
  rw [List.length_map, List.length_map]
  exact Nat.le_trans hl (by decide)
theorem cut_len {us : List (List Nat)} (hu : us.length ≤ 40) (a b : Nat) : ((us.take b).drop a).length ≤ 40 := by rw [List.length_drop, List.length_take]; omega
set_option maxRecDepth 100000 in
set_option maxHeartbeats 8000000 in
theorem turned_fn {w : World} {h₀ : Heap} (B : Base w h₀) {n : Nat} (hn : 4 ≤ n) (us : List (List Nat)) (m : Nat → Nat) (hu : us.length ≤ 40) (f : Nat) (upper lower : List Nat) (hk : us[f + 1]? = some upper) (hno : ∀ j, j < f + 1 → us[j]? ≠ some upper)
    (hf : us[f]? = some [40]) (h1 : turnC us f lower = true → us[f + 2]? = some [40]) (h2 : turnC us f lower = false → us[m f + 1]? = some [40]) (hasc : us.all (fun u => u.all (· < 128)) = true) (hla : lower.all (· < 128) = true) :
    Fn (n + 1) w h₀ (.ref 136) [strsD us, .map (mapD us m), .str upper, .str lower] (strsD (turnF us m f upper lower)) := by
  refine fn_enter (o := _) (fd := _) (body := _) (params := [Str.ofString "units", Str.ofString "mates", Str.ofString "upper", Str.ofString "lower"]) B rfl rfl rfl rfl rfl rfl rfl (fun vals h => ?_) (by decide) (by decide) rfl (by decide) rfl rfl rfl rfl ?_
  · exact bindv4 h fun a b c d => rfl
  · intro X A s L Q E ok rm st kk
    have hus : (us.map D.str).length ≤ sizeLine := by rw [List.length_map]; exact Nat.le_trans hu (by decide)
    have plainL : ∀ (l : List (List Nat)), (∀ u ∈ l, u.all (· < 128) = true) → (strsD l).plain = true := fun l h => plain_lst fun u hm => plain_str (h u hm)
    refine sAssign (ds' := [some (strsD us), some (.map (mapD us m)), some (.str upper), some (.str lower), some (.int f), none, none]) (d := .int f) 4 ok rm st ?_ fun s₁ p₁ st₁ => ?_
    · refine Ev.cast (Ev.bin (Ev.meth (T := "list") (id := "list.index") (d₀ := strsD us) (ds := [.str upper]) F.plainAttrs_list F.slot_list_index F.type_list_index mT_lst (Ev.name 0) (.cons (Ev.name 2) .nil) (fn_index hk hno (by lia))) Ev.kInt op_sub) (congrArg D.int (by lia))
    · refine sAssign (ds' := [some (strsD us), some (.map (mapD us m)), some (.str upper), some (.str lower), some (.int f), some (.int (m f)), none]) (d := .int (m f)) 5 (ok.wd _) rm st₁ (Ev.getM (Ev.name 1) (Ev.name 4) (mapD_at hf)) fun s₂ p₂ st₂ => ?_
      refine sIf (b := turnC us f lower) (ok.wd _) rm st₂ (Tv.cmp (d₁ := strsD ((us.take (f + 4)).drop (f + 3))) (d₂ := strsD [lower]) ?_ ?_ ?_) (fun hb s₃ p₃ st₃ => ?_) (fun hb s₃ p₃ st₃ => ?_)
      · exact Ev.cast (Ev.slc (Ev.name 0) (.yes (Ev.bin (Ev.name 4) Ev.kInt op_add)) (.yes (Ev.bin (Ev.name 4) Ev.kInt op_add)) hus) (sl_a (by lia) (by lia))
      · exact Ev.list (.cons (Ev.name 3) .nil) (by show 1 ≤ sizeLine; decide)
      · refine op_eqL Like.str.lst (plainL _ fun u hm => ?_) (plainL _ fun u hm => ?_) (by lia)
        · exact List.all_eq_true.mp hasc u (List.mem_of_mem_take (List.mem_of_mem_drop hm))
        · obtain rfl := mem1 hm; exact hla
      · have h40 := h1 hb
        have c1 := cut_len hu (f + 4) (m (f + 2) + 1)
        have c2 : (us.take f).length ≤ 40 := by rw [List.length_take]; lia
        have c3 : (us.drop (m (f + 2) + 1)).length ≤ 40 := by rw [List.length_drop]; lia
        refine sAssign (ds' := [some (strsD us), some (.map (mapD us m)), some (.str upper), some (.str lower), some (.int f), some (.int (m f)), some (.int (m (f + 2)))]) (d := .int (m (f + 2))) 6 (ok.wd _) rm st₃ ?_ fun s₄ p₄ st₄ => ?_
        · exact Ev.getM (Ev.name 1) (Ev.bin (Ev.name 4) Ev.kInt op_add) (by rw [show (f : Int) + 2 = ((f + 2 : Nat) : Int) by lia]; exact mapD_at h40)
        · refine sReturn (d := strsD (us.take f ++ [[40], lower] ++ (us.take (m (f + 2) + 1)).drop (f + 4) ++ [[40], upper] ++ us.drop (m (f + 2) + 1))) (ok.wd _) rm st₄ ?_ fun v s₅ p₅ r₅ => kk v s₅ ((((p₁.trans p₂).trans p₃.up).trans p₄).trans p₅.up) ?_
          · refine Ev.addS (Ev.addS (Ev.addS (Ev.addS ?_ ?_ ?_) ?_ ?_) ?_ ?_) ?_ ?_
            · exact Ev.cast (Ev.slc (Ev.name 0) .no (.yes (Ev.name 4)) hus) (sl_c rfl)
            · exact Ev.list (.cons Ev.kStr (.cons (Ev.name 3) .nil)) (by show 2 ≤ sizeLine; decide)
            · simp only [List.length_append, List.length_cons, List.length_nil]; lia
            · exact Ev.cast (Ev.slc (Ev.name 0) (.yes (Ev.bin (Ev.name 4) Ev.kInt op_add)) (.yes (Ev.bin (Ev.name 6) Ev.kInt op_add)) hus) (sl_a (by lia) (by lia))
            · simp only [List.length_append, List.length_cons, List.length_nil]; lia
            · exact Ev.list (.cons Ev.kStr (.cons (Ev.name 2) .nil)) (by show 2 ≤ sizeLine; decide)
            · simp only [List.length_append, List.length_cons, List.length_nil]; lia
            · exact Ev.cast (Ev.slc (Ev.name 0) (.yes (Ev.bin (Ev.name 6) Ev.kInt op_add)) .no hus) (sl_b (by lia))
            · simp only [List.length_append, List.length_cons, List.length_nil]; lia
          · unfold turnF
            rw [if_pos hb]
            exact r₅.less fun b hb => List.mem_append_right _ hb
      · have h40 := h2 hb
        have c1 := cut_len hu f (m f + 1)
        have c4 := cut_len hu (m f + 3) (m (m f + 1))
        have c2 : (us.take f).length ≤ 40 := by rw [List.length_take]; lia
        have c3 : (us.drop (m (m f + 1) + 1)).length ≤ 40 := by rw [List.length_drop]; lia
        refine sNil (sAssign (ds' := [some (strsD us), some (.map (mapD us m)), some (.str upper), some (.str lower), some (.int f), some (.int (m f)), some (.int (m (m f + 1)))]) (d := .int (m (m f + 1))) 6 (ok.wd _) rm st₃ ?_ fun s₄ p₄ st₄ => ?_)
        · exact Ev.getM (Ev.name 1) (Ev.bin (Ev.name 5) Ev.kInt op_add) (by rw [show (m f : Int) + 1 = ((m f + 1 : Nat) : Int) by lia]; exact mapD_at h40)
        · refine sReturn (d := strsD (us.take f ++ [[40], lower] ++ (us.take (m f + 1)).drop f ++ (us.take (m (m f + 1))).drop (m f + 3) ++ [[41]] ++ us.drop (m (m f + 1) + 1))) (ok.wd _) rm st₄ ?_ fun v s₅ p₅ r₅ => kk v s₅ ((((p₁.trans p₂).trans p₃.up).trans p₄).trans p₅.up) ?_
          · refine Ev.addS (Ev.addS (Ev.addS (Ev.addS (Ev.addS ?_ ?_ ?_) ?_ ?_) ?_ ?_) ?_ ?_) ?_ ?_
            · exact Ev.cast (Ev.slc (Ev.name 0) .no (.yes (Ev.name 4)) hus) (sl_c rfl)
            · exact Ev.list (.cons Ev.kStr (.cons (Ev.name 3) .nil)) (by show 2 ≤ sizeLine; decide)
            · simp only [List.length_append, List.length_cons, List.length_nil]; lia
            · exact Ev.cast (Ev.slc (Ev.name 0) (.yes (Ev.name 4)) (.yes (Ev.bin (Ev.name 5) Ev.kInt op_add)) hus) (sl_a (by lia) (by lia))
            · simp only [List.length_append, List.length_cons, List.length_nil]; lia
            · exact Ev.cast (Ev.slc (Ev.name 0) (.yes (Ev.bin (Ev.name 5) Ev.kInt op_add)) (.yes (Ev.name 6)) hus) (sl_a (by lia) rfl)
            · simp only [List.length_append, List.length_cons, List.length_nil]; lia
            · exact Ev.list (.cons Ev.kStr .nil) (by show 1 ≤ sizeLine; decide)
            · simp only [List.length_append, List.length_cons, List.length_nil]; lia
            · exact Ev.cast (Ev.slc (Ev.name 0) (.yes (Ev.bin (Ev.name 6) Ev.kInt op_add)) .no hus) (sl_b (by lia))
            · simp only [List.length_append, List.length_cons, List.length_nil]; lia
          · unfold turnF
            rw [if_neg (by rw [hb]; decide)]
            exact r₅.less fun b hb => List.mem_append_right _ hb
end Mine
end
section
open PySem PySem.W PySem.Calls PyProof.Rows Builtin Builtin.ObjectAttr Builtin.Getset_descriptor
set_option Elab.async false
set_option linter.unusedVariables false
set_option maxRecDepth 100000
namespace Mine
section
variable {w : World} {A : Around} {E : Value → Shared → Prop} {R : Result → Shared → Prop} {s : Shared} {K : Frag} {x C dx : Addr} {ox od od' : Obj} {es es' : List DictEntry} {n n' : Nat} {name : Str} {v : Value}
theorem osaD {tk : Tok} (X : K.In s.heap) (D : s.heap.get? dx = some od)
    (I : InstAt s.heap x ox C (some od)) (hd : ox.dict = some dx) (hp : plainOver K C = true) (ht : takerIn K C name = some none) (hh : (clsIn K C).any (·.hasDict) = true)
    (hl : (lookIn name od).isSome = true) (e : Obj.putName name (PyData.keyHash w.params name) (.str name s.toks) v od = od') (e' : od'.data = .dict es.toArray n) (hz : es.length ≤ 1000)
    (h : ∀ h', Heap.SameBut dx s.heap h' → h'.get? dx = some od' → R (.ok (.ret .none)) { s with heap := h', toks := s.toks + 1 }) :
    codeAny (model prog w) A (.call (.builtin "object.__setattr__") ⟨[.ref x, .str name tk, v], []⟩) R s := by
  refine osa_open X I hp ht fun b => ?_
  obtain ⟨cd, hc, hd'⟩ := any_some hh
  have D' : (s.heap.update dx (Obj.putName name (PyData.keyHash w.params name) (.str name s.toks) v)).get? dx = some od' := e ▸ Heap.get?_update_self _ D (by rw [e]; obtain ⟨_, _, dd, _⟩ := od'; cases e'; rfl)
  obtain ⟨hx, hcl, hn, -⟩ := I
  obtain ⟨oc, odi, oda, osl⟩ := ox
  dsimp only at hcl hd
  subst hcl hd
  refine wpAny_bind (wpAny_pure (wpAny_bind (wpAny_bind (wpAny_loadPart hx (wpAny_bind ((looks_clsIn X hc).here ?_))))))
  rw [hd']
  refine wpAny_pure (a := some dx) (wpAny_bind (wpAny_pure (wpAny_bind ?_)))
  unfold nsSet
  refine wpAny_bind (wpAny_bind (wpAny_askSetting (wpAny_pure (wpAny_bind (wpAny_mkText (wpAny_bind (wpAny_loadPart D ?_)))))))
  unfold lookIn at hl
  split at hl
  · rename_i es₀ n₀ q
    rw [q]
    dsimp only
    have c : (!es₀.any (·.key.isStr name) && es₀.any (·.refKey)) = false := by
      rw [← Array.any_toList, ← Array.any_toList]
      split at hl
      · rename_i en he
        rw [List.any_eq_true.mpr ⟨en, List.mem_of_find?_eq_some he, List.find?_some he⟩]; rfl
      · split at hl
        · cases hl
        · rename_i z; rw [Bool.not_eq_true] at z; rw [z, Bool.and_false]
    rw [aRefKeyMayBeTheName_at, c]
    refine wpAny_updatePart D ?_
    refine wpAny_bind (wpAny_lookBehind D' (by rw [e']; exact pastItsLine_dict (by rw [List.size_toArray, sizeLine_eq]; lia)) ?_)
    exact wpAny_pure (h _ (Heap.SameBut.update ..) D')
  · cases hl
/-- an attribute's store into an instance -/
theorem setA {Q : Unit → Shared → Prop} (X : K.In s.heap) (D : s.heap.get? dx = some (dictOf es n)) (I : InstAt s.heap x ox C (some (dictOf es n))) (hd : ox.dict = some dx)
    (hs : findIn K (.ref C) "__setattr__" = some (some (.builtin "object.__setattr__"))) (hp : plainOver K C = true) (ht : takerIn K C name = some none) (hh : hasDictIn K C = true) (hl : (getL name es).isSome = true)
    (e : (putL name (PyData.keyHash w.params name) (.str name (s.toks + 1)) v es, putN name es n) = (es', n')) (hz : es'.length ≤ 1000)
    (h : ∀ h', Heap.SameBut dx s.heap h' → h'.get? dx = some (dictOf es' n') → Q () { s with heap := h', toks := s.toks + 2 }) :
    wpAny (model prog w) A (setAttr (.ref x) name v) Q E s := by
  obtain ⟨e1, e2⟩ := Prod.mk.inj e
  exact set_plain X I hs (osaD (s := { s with toks := s.toks + 1 }) X D I hd hp ht hh hl (by rw [putName_dict, e1, e2]) rfl hz fun h' a b => h h' a b)
end
end Mine
end
section
open PySem PySem.W PyProof.Rows
set_option Elab.async false
set_option linter.unusedVariables false
set_option maxRecDepth 100000
namespace Mine
theorem slot_ci_next : Slot "callable_iterator" "__next__" "callable_iterator.__next__" :=
  .of (owner := "callable_iterator") (n := "__next__") (by rw [typeLookup_type, builtinLookup_eq_fast]; kernel_rfl) (by decide +kernel) (by decide +kernel) (by decide +kernel)
    (by first | exact .inl (by decide +kernel) | exact .inr (by decide +kernel)) (by rw [isSubtype_type]; kernel_rfl)
theorem entry_ci_next : entryFor table "callable_iterator.__next__" = some Builtin.«callable_iterator.__next__» := entryFor_of_tree (by kernel_rfl)
theorem owner_ci : Manifest.owners.lookup (String.ofList ['r', 'o', 't', 'a', 'r', 'e', 't', 'i', '_', 'e', 'l', 'b', 'a', 'l', 'l', 'a', 'c'].reverse) = some Manifest.sig_callable_iterator := by kernel_rfl
theorem args_ci_next (a : Value) : argsOk "callable_iterator.__next__" ⟨[a], []⟩ := by
  unfold argsOk; rw [signature?_of (id := "callable_iterator.__next__") (n := ['_', '_', 't', 'x', 'e', 'n', '_', '_']) (o := ['r', 'o', 't', 'a', 'r', 'e', 't', 'i', '_', 'e', 'l', 'b', 'a', 'l', 'l', 'a', 'c']) (by kernel_rfl) owner_ci]; kernel_rfl
end Mine
end
section
open PySem PySem.W PyProof.Rows
set_option Elab.async false
set_option linter.unusedVariables false
set_option maxRecDepth 100000
namespace Mine
section
variable {w : World} {A : Around} {E : Value → Shared → Prop} {s : Shared}
theorem wpAny_callBorrowed {f : Value} {pos : List Value} {Q : Value → Shared → Prop}
    (hc : codeAny (model prog w) A (.call f ⟨pos, []⟩) (fun r s' => match r with | .ok (.ret v) => Q v s' | .ok _ => False | .error e => E e s') s) : wpAny (model prog w) A (callBorrowed f pos) Q E s :=
  fun Γ p hΓ => by
    have h := hc _ p rfl (hΓ.enter (.call f ⟨pos, []⟩) none p (by intro x; cases x))
    obtain ⟨r, s₁, hret, hq⟩ := h
    refine ⟨r, s₁, hret, ?_⟩
    cases r with
    | error e => exact hq
    | ok fl => cases fl <;> first | exact hq | exact hq.elim
/-- a bound method of a def -/
theorem borrows_bound {b f : Addr} {x : Value} {of : Obj} {fd : FuncData} {Q : Bool → Shared → Prop} (hb : s.heap.get? b = some (methodObj (.ref f) x)) (hf : s.heap.get? f = some of) (hd : of.data = .func fd) (h : Q true s) :
    wpAny (model prog w) A (borrowsExactly (.ref b)) Q E s := by
  unfold borrowsExactly
  refine wpAny_bind (wpAny_load hb ?_)
  show wpAny _ _ (do match (← PySem.load f).data with | .func _ => pure true | _ => pure false) Q E s
  refine wpAny_bind (wpAny_load hf ?_)
  rw [hd]
  exact wpAny_pure h
/-- the callable iterator's object -/
noncomputable abbrev ciObj (f v : Value) (e : Bool) : Obj := { cls := .type "callable_iterator", data := .fields #[f, v, .bool e] }

theorem ci_next {it b f : Addr} {x : Value} {of : Obj} {fd : FuncData} {sent : Value} {Q : Option Value → Shared → Prop} (hi : s.heap.get? it = some (ciObj (.ref b) sent false)) (hb : s.heap.get? b = some (methodObj (.ref f) x)) (hf : s.heap.get? f = some of) (hd : of.data = .func fd)
    (hc : wpAny (model prog w) A.in1 (callBorrowed (.ref b) []) (fun r s₁ => s₁.heap.get? it = some (ciObj (.ref b) sent false) ∧ wpAny (model prog w) A.in1 (eqBool sent r) (fun e s₂ => e = false ∧ Q (some r) s₂) (fun _ _ => False) s₁) (fun _ _ => False) s) :
    wpAny (model prog w) A (pyNext (.ref it)) Q E s := by
  have hT : s.TypeIs (.ref it) "callable_iterator" := ⟨_, hi, rfl⟩
  unfold pyNext
  refine wpAny_bind (wpAny_attempt (wpAny_callSpecial?_slot (name := Str.ofString "__next__") hT slot_ci_next
    (wpAny_call_entry slot_ci_next hT entry_ci_next ?_ (args_ci_next _))))
  unfold Builtin.«callable_iterator.__next__»
  show wpAny _ A.in1 (field (.ref it) 2 >>= _) _ _ s
  refine wpAny_bind (wpAny_field hi rfl (x := .bool false) rfl ?_)
  show wpAny _ A.in1 (field (.ref it) 0 >>= _) _ _ s
  refine wpAny_bind (wpAny_field hi rfl (x := .ref b) rfl ?_)
  unfold callOutOfASlot
  refine wpAny_bind (wpAny_attempt (wpAny_bind (borrows_bound hb hf hd ?_)))
  rw [if_pos rfl]
  refine wpAny_mono hc (fun r s₁ h => ?_) fun _ _ h => h.elim
  obtain ⟨hi₁, h⟩ := h
  show wpAny _ A.in1 (field (.ref it) 2 >>= _) _ _ s₁
  refine wpAny_bind (wpAny_field hi₁ rfl (x := .bool false) rfl ?_)
  show wpAny _ A.in1 (field (.ref it) 1 >>= _) _ _ s₁
  refine wpAny_bind (wpAny_field hi₁ rfl (x := sent) rfl ?_)
  refine wpAny_bind (wpAny_holding (wpAny_mono h (fun e s₂ h₂ => ?_) fun _ _ h => h.elim))
  obtain ⟨rfl, h₂⟩ := h₂
  rw [if_pos (show (!false) = true from rfl)]
  exact wpAny_pure ⟨r, rfl, wpAny_pure h₂⟩
/-- StopIteration ends a walk -/
theorem stop_next {α : Type} {Q : Option Value → Shared → Prop} {P : α → Shared → Prop} (hh : A.handled = none) (h : ∀ h', (∀ b o, s.heap.get? b = some o → h'.get? b = some o) → Q none { s with heap := h' }) :
    wpAny (model prog w) A.in1 (Builtin.SmallTypes.stopIteration : Sem α) P (fun e s' => wpAny (model prog w) A (do let b ← isInstance e (.type "StopIteration"); if b = true then pure none else throw e) Q E s') s := by
  show wpAny _ _ (newExc (.type "StopIteration") [] >>= _) _ _ _
  refine wpAny_bind ?_
  simp only [newExc, newTuple]
  refine wpAny_bind (wpAny_newObj_type ?_ (by size_fits))
  refine wpAny_bind (m := firstArgMember _ _) (wpAny_of_eq (a := Value.none) (by first | rfl | (simp only [firstArgMember]; rfl)) ?_)
  refine wpAny_newObj_type ?_ (by size_fits)
  simp only [raiseNew]
  refine wpAny_bind (wpAny_handled ?_)
  first | rw [show A.in1.handled = none from hh] | rw [hh]
  refine wpAny_bind (wpAny_pure (wpAny_throw ?_))
  refine wpAny_bind (wpAny_isInstance (T := "StopIteration") (b := true) ⟨_, Heap.get?_push_size _ rfl, rfl⟩ isSubtype_stop ?_)
  exact wpAny_pure (h _ fun b o e => Heap.get?_push_of_some _ (Heap.get?_push_of_some _ e))
/-- the sentinel comes: the walk ends -/
theorem ci_end {it b f : Addr} {x : Value} {of : Obj} {fd : FuncData} {sent : Value} {Q : Option Value → Shared → Prop} (hh : A.handled = none) (hi : s.heap.get? it = some (ciObj (.ref b) sent false)) (hb : s.heap.get? b = some (methodObj (.ref f) x)) (hf : s.heap.get? f = some of) (hd : of.data = .func fd)
    (hc : wpAny (model prog w) A.in1 (callBorrowed (.ref b) []) (fun r s₁ => s₁.heap.get? it = some (ciObj (.ref b) sent false) ∧ s₁.heap.get? b = some (methodObj (.ref f) x) ∧ s₁.heap.get? f = some of ∧ wpAny (model prog w) A.in1 (eqBool sent r) (fun e s₂ => e = true ∧ s₂ = s₁) (fun _ _ => False) s₁ ∧
      ∀ h', (∀ b o, b ≠ it → s₁.heap.get? b = some o → h'.get? b = some o) → h'.get? it = some (ciObj .none .none true) → Q none { s₁ with heap := h' }) (fun _ _ => False) s) :
    wpAny (model prog w) A (pyNext (.ref it)) Q E s := by
  have hT : s.TypeIs (.ref it) "callable_iterator" := ⟨_, hi, rfl⟩
  unfold pyNext
  refine wpAny_bind (wpAny_attempt (wpAny_callSpecial?_slot (name := Str.ofString "__next__") hT slot_ci_next
    (wpAny_call_entry slot_ci_next hT entry_ci_next ?_ (args_ci_next _))))
  unfold Builtin.«callable_iterator.__next__»
  show wpAny _ A.in1 (field (.ref it) 2 >>= _) _ _ s
  refine wpAny_bind (wpAny_field hi rfl (x := .bool false) rfl ?_)
  show wpAny _ A.in1 (field (.ref it) 0 >>= _) _ _ s
  refine wpAny_bind (wpAny_field hi rfl (x := .ref b) rfl ?_)
  unfold callOutOfASlot
  refine wpAny_bind (wpAny_attempt (wpAny_bind (borrows_bound hb hf hd ?_)))
  rw [if_pos rfl]
  refine wpAny_mono hc (fun r s₁ h => ?_) fun _ _ h => h.elim
  obtain ⟨hi₁, hb₁, hf₁, h, hq⟩ := h
  show wpAny _ A.in1 (field (.ref it) 2 >>= _) _ _ s₁
  refine wpAny_bind (wpAny_field hi₁ rfl (x := .bool false) rfl ?_)
  show wpAny _ A.in1 (field (.ref it) 1 >>= _) _ _ s₁
  refine wpAny_bind (wpAny_field hi₁ rfl (x := sent) rfl ?_)
  refine wpAny_bind (wpAny_holding (wpAny_mono h (fun e s₂ h₂ => ?_) fun _ _ h => h.elim))
  obtain ⟨rfl, rfl⟩ := h₂
  rw [if_neg (show ¬ (!true) = true by decide)]
  refine wpAny_bind (wpAny_rule ?_)
  refine wpAny_bind ?_
  show wpAny _ A.in1 (do
    slotLetsGo "callable_iterator.__next__" (← field (.ref it) 0) fun | .builtin "callable_iterator.__next__" x => x.pos.head? == some (.ref it) | _ => false
    setField (.ref it) 0 .none; setField (.ref it) 1 .none; setField (.ref it) 2 (.bool true)) _ _ s₂
  refine wpAny_bind (wpAny_field hi₁ rfl (x := .ref b) rfl ?_)
  refine wpAny_bind ?_
  unfold slotLetsGo
  refine wpAny_bind (borrows_bound hb₁ hf₁ hd ?_)
  rw [if_pos rfl]
  refine wpAny_pure ?_
  refine wpAny_bind (wpAny_setField_rec hi₁ (by simp) fun h₃ g₃ b₃ => ?_)
  refine wpAny_bind (wpAny_setField_rec g₃ (by simp) fun h₄ g₄ b₄ => ?_)
  refine wpAny_setField_rec g₄ (by simp) fun h₅ g₅ b₅ => ?_
  have keep : ∀ b o, b ≠ it → s₂.heap.get? b = some o → h₅.get? b = some o := fun b o n e => b₅.extBut b o n (b₄.extBut b o n (b₃.extBut b o n e))
  have fin : ∀ (s' : Shared), s' = { s₂ with heap := h₅ } → wpAny (model prog w) A.in1 (Builtin.SmallTypes.stopIteration : Sem PySem.Fin) (fun _ _ => False) (fun e s' => wpAny (model prog w) A (do let b ← isInstance e (.type "StopIteration"); if b = true then pure none else throw e) Q E s') s' := by
    rintro s' rfl
    refine stop_next hh fun h' k => hq h' (fun b o n e => k b o (keep b o n e)) (k _ _ ?_)
    simpa using g₅
  refine wpAny_mono (fin _ rfl) (fun _ _ h => h.elim) fun _ _ h => h
end
end Mine
end
section
open PySem PySem.W PyProof.Rows
set_option Elab.async false
set_option linter.unusedVariables false
set_option maxRecDepth 100000
namespace Mine
section
variable {w : World} {A : Around} {E : Value → Shared → Prop} {s : Shared}
theorem ci_ended {it : Addr} {Q : Option Value → Shared → Prop} (hh : A.handled = none) (hi : s.heap.get? it = some (ciObj .none .none true))
    (h : ∀ h', (∀ b o, s.heap.get? b = some o → h'.get? b = some o) → Q none { s with heap := h' }) : wpAny (model prog w) A (pyNext (.ref it)) Q E s := by
  have hT : s.TypeIs (.ref it) "callable_iterator" := ⟨_, hi, rfl⟩
  unfold pyNext
  refine wpAny_bind (wpAny_attempt (wpAny_callSpecial?_slot (name := Str.ofString "__next__") hT slot_ci_next
    (wpAny_call_entry slot_ci_next hT entry_ci_next ?_ (args_ci_next _))))
  unfold Builtin.«callable_iterator.__next__»
  show wpAny _ A.in1 (field (.ref it) 2 >>= _) _ _ s
  refine wpAny_bind (wpAny_field hi rfl (x := .bool true) rfl ?_)
  show wpAny _ A.in1 ((rule "callable_iterator.__next__.ended" : Sem Unit) >>= fun _ => Builtin.SmallTypes.stopIteration >>= _) _ _ s
  refine wpAny_bind (wpAny_rule ?_)
  refine wpAny_bind ?_
  refine wpAny_mono (stop_next (P := fun _ _ => False) hh h) (fun _ _ h => h.elim) fun _ _ h => h
theorem slot_ci_iter : Slot "callable_iterator" "__iter__" "callable_iterator.__iter__" :=
  .of (owner := "callable_iterator") (n := "__iter__") (by rw [typeLookup_type, builtinLookup_eq_fast]; kernel_rfl) (by decide +kernel) (by decide +kernel) (by decide +kernel)
    (by first | exact .inl (by decide +kernel) | exact .inr (by decide +kernel)) (by rw [isSubtype_type]; kernel_rfl)
theorem entry_ci_iter : entryFor table "callable_iterator.__iter__" = some Builtin.«dict_keyiterator.__iter__» :=
  entryFor_alias (id' := "dict_keyiterator.__iter__") (by kernel_rfl) rfl (by decide +kernel) (by kernel_rfl)
theorem args_ci_iter (a : Value) : argsOk "callable_iterator.__iter__" ⟨[a], []⟩ := by
  unfold argsOk; rw [signature?_of (id := "callable_iterator.__iter__") (n := ['_', '_', 'r', 'e', 't', 'i', '_', '_']) (o := ['r', 'o', 't', 'a', 'r', 'e', 't', 'i', '_', 'e', 'l', 'b', 'a', 'l', 'l', 'a', 'c']) (by kernel_rfl) owner_ci]; kernel_rfl
theorem ci_iter {it : Addr} {a b : Value} {e : Bool} {Q : Value → Shared → Prop} (hi : s.heap.get? it = some (ciObj a b e)) (h : Q (.ref it) s) : wpAny (model prog w) A (pyIter (.ref it)) Q E s := by
  have hT : s.TypeIs (.ref it) "callable_iterator" := ⟨_, hi, rfl⟩
  refine wpAny_pyIter_slot hT slot_ci_iter (wpAny_call_entry slot_ci_iter hT entry_ci_iter ?_ (args_ci_iter _))
  show wpAny _ _ (ret (.ref it)) _ _ s
  exact wpAny_pure ⟨_, rfl, "callable_iterator", _, hT, slot_ci_next.lookup, h⟩
theorem kind_iter : builtinKind "iter" = none := by decide +kernel
theorem plain_iter : plainId "iter" = true := by decide +kernel
theorem entry_iter' : entryFor table "iter" = some Builtin.«iter» := entryFor_of_tree (by kernel_rfl)
theorem args_iter_2 (a b : Value) : argsOk "iter" ⟨[a, b], []⟩ := by unfold argsOk; kernel_rfl
end
end Mine
end
section
open PySem PySem.W PyProof.Rows
set_option Elab.async false
set_option linter.unusedVariables false
namespace Mine
/-! entering a def that writes objects of the caller's -/
theorem fn_enterYc (X : List Addr) {n : Nat} {w : World} {h₀ : Heap} {a : Addr} {o : Obj} {fd : FuncData} {body : List Stmt} {params : List Str} {args : List D} {d : D} {ds : List (Option D)} (Y : List Addr) (P R : Shared → Prop) (hP : ∀ s s', P s → Pure s s' → P s')
    (B : Base w h₀) (ho : (KF w).lookup a = some o) (hdata : o.data = .func fd) (hbody : fd.body = .stmts body) (hcode : codeIn (KF w) fd.code fd.qualname = true)
    (hclo : fd.closure = []) (hglob : fd.globals = mainGlobals) (hblt : fd.builtins = builtinsNs) (hbind : ∀ vals, vals.length = args.length → bindArgs fd ⟨vals, []⟩ = pure (params.zip vals))
    (nd : (fd.scope.names.map (·.1)).Nodup) (ndp : params.Nodup) (hpl : params.length = args.length) (hpk : ∀ x ∈ params, fd.scope.names.lookup x = some .local ∨ fd.scope.names.lookup x = some .cell)
    (hds : initDs fd.scope.names params args = ds) (hco : fd.scope.isCoroutine = false) (hgen : fd.scope.isGenerator = false) (hkf : fd.scope.kind = .function)
    (run : ∀ (A : Around) (s : Shared) (L : Addr) (Q : Flow → Shared → Prop) (E : Value → Shared → Prop), Ok (fnCx w h₀ X fd a L ds) → Rm n A → St (fnCx w h₀ X fd a L ds) s → P s → (∀ b ∈ Y, b ∈ X) → (∀ b ∈ (fnCx w h₀ X fd a L ds).own, b ∉ Y) →
      (∀ v s', Step ((fnCx w h₀ X fd a L ds).wr ++ Y) [] s s' → R s' → Rep X s'.heap d v → Q (.ret v) s') → (∀ s', Step ((fnCx w h₀ X fd a L ds).wr ++ Y) [] s s' → R s' → d = .none → Q .next s') → wpAny (model prog w) A (execs body (fnCx w h₀ X fd a L ds).env) Q E s) :
    ∀ (A : Around) (s : Shared) (vals : List Value) (Q : Value → Shared → Prop) (E : Value → Shared → Prop), Rm (n + 1) A → Ext h₀ s.heap → Low X s.heap → (∀ a ∈ X, h₀.get? a = none) → RepL X s.heap args vals → P s → (∀ b ∈ Y, b ∈ X) →
      (∀ v s', Step Y [] s s' → R s' → Rep X s'.heap d v → Q v s') → codeAny (model prog w) A (.call (.ref a) ⟨vals, []⟩) (fun r s' => match r with | .ok (.ret v) => Q v s' | .ok _ => False | .error e => E e s') s := by
  intro A s vals Q E rm old low nw r hPs hY k
  obtain ⟨p, loose, mg, mb, T⟩ := B.T
  have Ks := B.K.keeps old
  have hlen := r.length
  have zl : (params.zip vals).map (·.1) = params := by rw [List.map_fst_zip]; lia
  have own_ge : ∀ b ∈ s.heap.objs.size :: (scopeVs (s.heap.objs.size + 1) fd.scope.names).filterMap (·.2), s.heap.objs.size ≤ b := by
    intro b hb
    rcases memc hb with rfl | hb
    · exact Nat.le_refl _
    · obtain ⟨⟨x, o'⟩, hx, e⟩ := List.mem_filterMap.mp hb
      simp only at e; subst e
      have := scopeVs_ge hx
      lia
  have fresh : ∀ b, s.heap.objs.size ≤ b → s.heap.get? b = none := fun b hb => by
    cases e : s.heap.get? b with
    | none => rfl
    | some o' => exact absurd (Heap.lt_size e) (Nat.not_lt.mpr hb)
  refine codeAny_call_cells rm.room (Ks _ _ ho) hdata (T.nolimit.keeps old) (codeRec_of Ks hcode) hbody (hbind vals hlen) hclo ?_ (fun s₁ IC => ?_) hco hgen hkf
  · intro x hx
    have : x.1 ∈ params := by
      have := List.mem_map_of_mem (f := (·.1)) hx
      rw [zl] at this; exact this
    rcases hpk _ this with h | h
    · exact .inl h
    · refine .inr ⟨h, ?_⟩
      have : ∃ b, (x.1, some b) ∈ scopeVs (s.heap.objs.size + 1) fd.scope.names := by
        have aux : ∀ (names : List (Str × NameKind)) (m : Nat), names.lookup x.1 = some .cell → ∃ b, (x.1, some b) ∈ scopeVs m names := by
          intro names
          induction names with
          | nil => intro m e; simp at e
          | cons q r ih =>
            intro m e
            obtain ⟨y, kk⟩ := q
            unfold scopeVs
            by_cases hy : x.1 = y
            · subst hy
              rw [lookup_hit] at e; cases e
              rw [if_neg (by decide), if_pos (by decide)]
              exact ⟨m, .head _⟩
            · rw [lookup_skip hy] at e
              split
              · obtain ⟨b, hb⟩ := ih m e; exact ⟨b, .tail _ hb⟩
              · split
                · obtain ⟨b, hb⟩ := ih (m + 1) e; exact ⟨b, .tail _ hb⟩
                · exact ih m e
        exact aux _ _ h
      obtain ⟨b, hb⟩ := this
      rw [cellsFrom_hit nd hb]; rfl
  · have c1 : Ext s.heap s₁.heap := IC.toInCall.keep
    obtain ⟨h', tk, e₁⟩ := IC.toInCall.same
    have ok : Ok (fnCx w h₀ X fd a s.heap.objs.size ds) := by
      refine ⟨B, hkf, hglob, hblt, fun x hx => scopeVs_loc nd hx, fun x b hx => ⟨.inl (scopeVs_cel nd hx), cellsFrom_hit nd hx⟩, scopeVs_nd nd, scopeVs_ndc, fun b hb => List.mem_append_left _ hb, fun b hb => ?_⟩
      rcases List.mem_append.mp hb with hb | hb
      · have := fresh b (own_ge b hb)
        cases e : h₀.get? b with
        | none => rfl
        | some o' => have := old _ _ e; rw [fresh b (own_ge b hb)] at this; cases this
      · exact nw b hb
    have rX : RepL (fnCx w h₀ X fd a s.heap.objs.size ds).X s.heap args vals := r.more fun b hb => by
      rcases List.mem_append.mp hb with hb | hb
      · exact .inr (fresh b (own_ge b hb))
      · exact .inl hb
    have rX' := rX.ext c1
    have dsAt : ∀ (i : Nat) x o' d', (scopeVs (s.heap.objs.size + 1) fd.scope.names)[i]? = some (x, o') → ds[i]? = some (some d') → (params.zip args).lookup x = some d' := by
      intro i x o' d' e1 e2
      rw [← hds] at e2
      unfold initDs at e2
      rw [scopeVs_map (fun y => (params.zip args).lookup y) fd.scope.names 0 (s.heap.objs.size + 1), List.getElem?_map, e1] at e2
      simpa using e2
    have st : St (fnCx w h₀ X fd a s.heap.objs.size ds) s₁ := by
      refine ⟨old.trans c1, fun b hb => ?_, ?_, ⟨_, IC.toInCall.ns, fun i x d' e1 e2 => ?_⟩, fun i x b e1 => ?_⟩
      · rcases List.mem_append.mp hb with hb | hb
        · rcases memc hb with rfl | hb
          · obtain ⟨o', _, _, g, _⟩ := IC.toInCall.ns; exact ⟨o', g⟩
          · obtain ⟨⟨x, o'⟩, hx, e⟩ := List.mem_filterMap.mp hb
            simp only at e; subst e
            obtain ⟨o', g, _⟩ := IC.cell x b (cellsFrom_hit nd hx)
            exact ⟨o', g⟩
        · obtain ⟨o', g⟩ := low b hb; exact ⟨o', c1 _ _ g⟩
      · show ds.length = (scopeVs (s.heap.objs.size + 1) fd.scope.names).length
        rw [← hds]
        unfold initDs
        rw [List.length_map]
        have := congrArg List.length (scopeVs_map (fun y => y) fd.scope.names 0 (s.heap.objs.size + 1))
        simpa using this
      · obtain ⟨v, m, r'⟩ := zip_mem rX' (dsAt i x _ d' e1 e2)
        exact ⟨v, bindL_get (by rw [zl]; exact ndp) m (scopeVs_loc nd (List.mem_of_getElem? e1)), r'⟩
      · refine ⟨_, IC.cell x b (cellsFrom_hit nd (List.mem_of_getElem? e1)), fun d' e2 => ?_⟩
        obtain ⟨v, m, r'⟩ := zip_mem rX' (dsAt i x _ d' e1 e2)
        exact ⟨v, bindC_get (by rw [zl]; exact ndp) m (scopeVs_cel nd (List.mem_of_getElem? e1)), r'⟩
    have p0 : Pure s s₁ := by rw [e₁]; exact .heap (by rw [e₁] at c1; exact c1.toX)
    have back : ∀ s', Step ((fnCx w h₀ X fd a s.heap.objs.size ds).wr ++ Y) [] s₁ s' → Step Y [] s s' := fun s' p => by
      refine ⟨fun b o' hb g => p.ext b o' (fun q => ?_) (c1 _ _ g), p.os.trans p0.os, fun h => p.bare (p0.bare h), fun g st' n e => p.gen g st' n (p0.gen g st' n e), Nat.le_trans p0.gsize p.gsize⟩
      rcases List.mem_append.mp q with q | q
      · have := own_ge b (Cx.wr_own q)
        rw [fresh b this] at g; cases g
      · exact hb q
    refine run _ s₁ s.heap.objs.size _ _ ok rm.deeper st (hP _ _ hPs p0) hY (fun b hb q => ?_) (fun v s' p hR r' => k v s' (back s' p) hR r') (fun s' p hR hd => k .none s' (back s' p) hR (by rw [hd]; exact Rep.none'))
    obtain ⟨o', g⟩ := low b (hY b q)
    rw [fresh b (own_ge b hb)] at g; cases g
end Mine
end
section
open PySem PySem.W PyProof.Rows
set_option Elab.async false
set_option linter.unusedVariables false
namespace Mine
section
variable {n : Nat} {w : World} {h₀ : Heap}
/-- the sign of a digit, read -/
theorem fn_int {d : Nat} (hd : d < 10) : Fn n w h₀ (.type "int") [.str [48 + d]] (.int d) := fun X A s vs Q E rm old lo nw r k => by
  rw [RepL.cons_iff] at r; obtain ⟨v, r', rfl, a, b⟩ := r
  rw [RepL.nil_iff] at b; subst b
  obtain ⟨t, rfl⟩ := a.str_inv
  have : PySem.intText? ⟨[48 + d].toArray⟩ = some (d : Int) := (show ∀ d : Nat, d < 10 → PySem.intText? ⟨[48 + d].toArray⟩ = some (d : Int) by decide +kernel) d hd
  exact KIN.call_text this (by show (1 : Nat) ≤ 640; decide) (k _ _ .toks Rep.int')
theorem fn_count {l : List Nat} {c : Nat} (hl : l.length < 2 ^ 60) : Fn n w h₀ (.builtin "str.count") [.str l, .str [c]] (.int (l.count c)) := fun X A s vs Q E rm old lo nw r k => by
  rw [RepL.cons_iff] at r; obtain ⟨v, r', rfl, a, b⟩ := r
  rw [RepL.cons_iff] at b; obtain ⟨v', r'', rfl, a', b'⟩ := b
  rw [RepL.nil_iff] at b'; subst b'
  obtain ⟨t, rfl⟩ := a.str_inv
  obtain ⟨u, rfl⟩ := a'.str_inv
  refine call_gives PySem.F.slot_str_count (typeIs_str _ _ _) PySem.F.entry_str_count (PySem.F.args_str_count_2 _ _) (gives_str_count _ _ t u) (k _ _ .toks ?_)
  have h := occ_size l c (l.length + 1) (l.length + 1) 0 (#[], 0) (Nat.le_refl _) (by simp)
  rw [occ_count] at h
  have h2 : (Builtin.Str.occurrences ⟨l.toArray⟩ ⟨#[c]⟩ 0 (Str.length ⟨l.toArray⟩) (l.length + 1)).length = l.count c := by
    rw [occ_fold, Array.length_toList, h]
    have := List.count_le_length (a := c) (l := l)
    simp; lia
  rw [Rep]
  exact ⟨_, by rw [← h2]; rfl⟩
noncomputable def isort (ns : List Int) : List Int := ns.mergeSort fun a b => decide (a ≤ b)
theorem isort_pw (ns : List Int) : (isort ns).Pairwise (· ≤ ·) := by
  have := List.pairwise_mergeSort (le := fun a b : Int => decide (a ≤ b)) (fun a b c h1 h2 => by simp at *; lia) (fun a b => by simp; lia) ns
  exact this.imp (by simp)
theorem isort_id {ns : List Int} (h : ns.Pairwise (· ≤ ·)) : isort ns = ns :=
  List.Perm.eq_of_pairwise (le := (· ≤ ·)) (fun a b _ _ => Int.le_antisymm) (isort_pw ns) h (List.mergeSort_perm ..)
theorem fn_sorted {ns : List Int} (h64 : ns.length < 64) : Fn n w h₀ (.builtin "sorted") [.lst (ns.map .int)] (.lst ((isort ns).map .int)) := by
  intro X A s vs Q E rm old lo nw r k
  rw [RepL.cons_iff] at r; obtain ⟨v, r', rfl, a, b⟩ := r
  rw [RepL.nil_iff] at b; subst b
  obtain ⟨l, vs, rfl, na, ia, ra⟩ := a.lst_inv
  have hi := ints_of ra
  have hl := hi.length
  refine sorted_ints ia hi (by lia) fun out ns' h1 h2 h3 => ?_
  have e : ns' = isort ns := List.Perm.eq_of_pairwise (le := (· ≤ ·)) (fun a b _ _ => Int.le_antisymm) h3 (isort_pw ns) (h2.trans (List.mergeSort_perm ..).symm)
  subst e
  obtain ⟨m, g⟩ := sortedAll_at s.heap vs out
  refine k _ _ (.heap fun b o _ e => sortedAll_old e) (Rep.lst' (vs := out.toList) (fun q => ?_) ⟨m, by simpa using g⟩ (of_ints h1))
  obtain ⟨o, e⟩ := lo _ q
  exact absurd (Heap.lt_size e) (Nat.not_lt.mpr (Nat.le_succ _))
end
end Mine
end
section
open PySem PySem.W PyProof.Rows
set_option Elab.async false
set_option linter.unusedVariables false
set_option maxRecDepth 100000
namespace Mine
theorem fn_ga : typeLookup (.type "function") "__getattribute__" = pure (some (.builtin "object.__getattribute__")) := by rw [typeLookup_type, builtinLookup_eq_fast]; kernel_rfl
theorem fn_read : typeLookup (.type "function") (Str.ofString "read") = pure none := by rw [typeLookup_type, builtinLookup_eq_fast]; kernel_rfl
theorem fn_sa : typeLookup (.type "function") "__setattr__" = pure (some (.builtin "object.__setattr__")) := by rw [typeLookup_type, builtinLookup_eq_fast]; kernel_rfl
theorem slot_fn_ga : Slot "function" "__getattribute__" "object.__getattribute__" :=
  .of (owner := "object") (n := "__getattribute__") (by rw [typeLookup_type, builtinLookup_eq_fast]; kernel_rfl) (by decide +kernel) (by decide +kernel) (by decide +kernel)
    (by first | exact .inl (by decide +kernel) | exact .inr (by decide +kernel)) (by rw [isSubtype_type]; kernel_rfl)
section
variable {w : World} {A : Around} {E : Value → Shared → Prop} {s : Shared}
theorem nsGet_dict {sd : Addr} {es : List DictEntry} {n : Nat} {name : Str} {r : Option Value} {Q : Option Value → Shared → Prop} (hd : s.heap.get? sd = some (dictOf es n)) (hl : getL name es = some r) (h : Q r s) : wpAny (model prog w) A (nsGet sd name) Q E s := by
  unfold getL at hl
  refine wpAny_bind (wpAny_loadPart hd ?_)
  rw [nsLook_eq]
  unfold nsLookByArray
  dsimp only
  rw [← Array.find?_toList]
  split at hl
  · rename_i en he; cases hl; rw [he]; exact wpAny_pure h
  · rename_i he
    rw [he]
    split at hl
    · cases hl
    · rename_i hr; cases hl
      rw [← Array.any_toList, if_neg hr]; exact wpAny_pure h
theorem fnAttr {f sd : Addr} {fd : FuncData} {es : List DictEntry} {n : Nat} {v : Value} {expr : Bool} {sl : Array (Option Value)} {Q : Value → Shared → Prop} (hf : s.heap.get? f = some ⟨.type "function", some sd, .func fd, sl⟩) (hd : s.heap.get? sd = some (dictOf es n)) (hl : getL (Str.ofString "read") es = some (some v)) (hv : handedIn v = true)
    (h : Q v { s with toks := s.toks + 1 }) : wpAny (model prog w) A (getAttr (.ref f) (Str.ofString "read") expr) Q E s := by
  have hT : ∀ t, ({ s with toks := t } : Shared).TypeIs (.ref f) "function" := fun t => ⟨_, hf, rfl⟩
  unfold getAttr getAttrBy
  refine wpAny_bind (wpAny_mkText (wpAny_holding (wpAny_bind (wpAny_typeOf (hT _) (wpAny_bind (wpAny_of_eq fn_ga ?_))))))
  show wpAny _ _ (getAttrByItsOwn (.ref f) (.str (Str.ofString "read") s.toks) (.type "function") (.builtin "object.__getattribute__") true expr) _ _ _
  unfold getAttrByItsOwn hookBefore callGetattribute boundAndCalled
  refine wpAny_bind (wpAny_of_eq (show (if onTheHeap (.type "function") then typeLookup (.type "function") "__getattr__" else pure none) = pure none from rfl) ?_)
  refine wpAny_bind (wpAny_attempt (wpAny_holding ?_))
  rw [show (expr && onTheHeap (.builtin "object.__getattribute__")) = false from by cases expr <;> rfl, if_neg (by decide)]
  refine wpAny_bind (wpAny_of_eq (slot_fn_ga.bind _) ?_)
  refine wpAny_mono (Q := fun x s' => x = v ∧ s' = { s with toks := s.toks + 1 }) (E := fun _ _ => False)
    (wpAny_call_entry slot_fn_ga (hT _) PySem.F.entry_object_getattribute ?_ (PySem.F.args_object_getattribute_2 _ _)) (fun x s' hx => ?_) fun _ _ z => z.elim
  · unfold Builtin.«object.__getattribute__»
    refine wpAny_bind (wpAny_of_eq (a := (Value.ref f, [Value.str (Str.ofString "read") s.toks])) (by rfl) ?_)
    refine wpAny_bind (wpAny_of_eq (a := Str.ofString "read") (by rfl) ?_)
    refine wpAny_bind (wpAny_typeOf (hT _) ?_)
    refine wpAny_bind ?_
    unfold Builtin.ObjectAttr.find
    refine wpAny_bind (wpAny_of_eq fn_read ?_)
    refine wpAny_bind (wpAny_pure ?_)
    refine wpAny_bind (wpAny_pure ?_)
    show wpAny _ _ (Builtin.ObjectAttr.ownThenClass (.ref f) (Str.ofString "read") none none) _ _ _
    unfold Builtin.ObjectAttr.ownThenClass Builtin.ObjectAttr.inOwnDict Builtin.ObjectAttr.ownDict
    refine wpAny_bind (wpAny_bind (wpAny_bind (wpAny_loadPart hf ?_)))
    unfold instanceDict
    refine wpAny_bind (wpAny_loadPart hf ?_)
    refine wpAny_pure ?_
    show wpAny _ _ (nsGet sd (Str.ofString "read")) _ _ _
    refine nsGet_dict hd hl ?_
    refine wpAny_bind (wpAny_rule (wpAny_pure ?_))
    exact wpAny_pure ⟨v, rfl, rfl, rfl⟩
  · obtain ⟨rfl, rfl⟩ := hx
    show wpAny _ _ (handedOut _) _ _ _
    rw [handedOut_of hv]; exact wpAny_pure h
end
end Mine
end
section
open PySem PySem.W PyProof.Rows Builtin Builtin.ObjectAttr
set_option Elab.async false
set_option linter.unusedVariables false
set_option maxRecDepth 100000
namespace Mine
section
variable {w : World} {A : Around} {E : Value → Shared → Prop} {s : Shared}
theorem fn_mro : mroOf (.type "function") = pure [.type "function", .type "object"] := by kernel_rfl
theorem fn_passes (self : Value) : refuseLoop self (Str.ofString "__setattr__") [.type "function", .type "object"] = pure () := by
  unfold refuseLoop classOwn
  simp only [List.forIn_cons, List.forIn_nil, builtinOwn_eq_fast]
  kernel_rfl
theorem refuse_fn {f : Addr} {Q : Unit → Shared → Prop} (hT : s.TypeIs (.ref f) "function") (h : Q () s) : wpAny (model prog w) A (refuseIfOverridden (.ref f) (Str.ofString "__setattr__")) Q E s := by
  rw [refuse_eq]
  refine wpAny_bind (wpAny_typeOf hT ?_)
  refine wpAny_bind (wpAny_of_eq fn_mro ?_)
  exact wpAny_of_eq (fn_passes _) h
theorem slot_fn_sa : Slot "function" "__setattr__" "object.__setattr__" :=
  .of (owner := "object") (n := "__setattr__") (by rw [typeLookup_type, builtinLookup_eq_fast]; kernel_rfl) (by decide +kernel) (by decide +kernel) (by decide +kernel)
    (by first | exact .inl (by decide +kernel) | exact .inr (by decide +kernel)) (by rw [isSubtype_type]; kernel_rfl)
theorem fnSet {f : Addr} {fd : FuncData} {v : Value} {sl : Array (Option Value)} {Q : Unit → Shared → Prop} (hf : s.heap.get? f = some ⟨.type "function", none, .func fd, sl⟩)
    (h : ∀ h' hsh tk nn tk', Heap.ExtBut f s.heap h' → h'.get? f = some ⟨.type "function", some s.heap.objs.size, .func fd, sl⟩ → h'.get? s.heap.objs.size = some (dictOf [⟨hsh, .str (Str.ofString "read") tk, v⟩] nn) → Q () { s with heap := h', toks := tk' }) :
    wpAny (model prog w) A (setAttr (.ref f) (Str.ofString "read") v) Q E s := by
  have hT : ∀ t, ({ s with toks := t } : Shared).TypeIs (.ref f) "function" := fun t => ⟨_, hf, rfl⟩
  unfold setAttr
  refine wpAny_bind (wpAny_mkText (wpAny_bind (wpAny_callSpecial?_slot (name := Str.ofString "__setattr__") (hT _) slot_fn_sa (wpAny_call_entry slot_fn_sa (hT _) PySem.F.entry_object_sa ?_ (PySem.F.store_object.args _ _ _)))))
  unfold Builtin.«object.__setattr__»
  refine wpAny_bind (refuse_fn (hT _) ?_)
  refine wpAny_bind (wpAny_of_eq (a := Str.ofString "read") (by rfl) ?_)
  refine wpAny_bind (wpAny_typeOf (hT _) ?_)
  refine wpAny_bind (wpAny_of_eq fn_read ?_)
  refine wpAny_bind (wpAny_pure ?_)
  show wpAny _ _ (storeInOwnDict (.ref f) (.type "function") _ _ _ _) _ _ _
  unfold storeInOwnDict
  refine wpAny_bind (wpAny_of_eq (a := ()) (by rfl) ?_)
  rw [if_neg (by decide)]
  refine wpAny_bind ?_
  unfold ownDictForStores instanceDict
  refine wpAny_bind (wpAny_loadPart hf ?_)
  have hd : (!true || !typeHasDict (.type "function")) = false := by decide +kernel
  dsimp only
  rw [hd, if_neg Bool.false_ne_true]
  refine wpAny_bind (wpAny_alloc ?_)
  have up : ∀ b o, s.heap.get? b = some o → (s.heap.push { cls := .type "dict", data := .dict #[] }).get? b = some o := fun b o e => Heap.get?_push_of_some _ e
  refine wpAny_bind (wpAny_update (up _ _ hf) ?_)
  have hdm : ∀ d, dictMade (.type "function") f d = pure (some d) := fun d => by
    unfold dictMade
    dsimp only
    rw [show finalisedInACycleAlone "function" = false from by decide +kernel]
    rfl
  refine wpAny_of_eq (hdm _) ?_
  have gd0 : ((s.heap.push { cls := .type "dict", data := .dict #[] }).update f fun o => { o with dict := some s.heap.objs.size }).get? s.heap.objs.size = some (dictOf [] 0) := by
    rw [Heap.get?_update_ne _ _ _ _ (Nat.ne_of_gt (Heap.lt_size hf))]
    exact Heap.get?_push_size _ rfl
  have gf0 : ((s.heap.push { cls := .type "dict", data := .dict #[] }).update f fun o => { o with dict := some s.heap.objs.size }).get? f = some ⟨.type "function", some s.heap.objs.size, .func fd, sl⟩ := Heap.get?_update_self _ (up _ _ hf) rfl
  have ex0 : Heap.ExtBut f s.heap ((s.heap.push { cls := .type "dict", data := .dict #[] }).update f fun o => { o with dict := some s.heap.objs.size }) := fun b o n e => (Heap.get?_update_ne _ _ _ _ n).trans (up b o e)
  show wpAny _ _ (storeInDict s.heap.objs.size _ _ v) _ _ ({ s with heap := (s.heap.push { cls := .type "dict", data := .dict #[] }).update f fun o => { o with dict := some s.heap.objs.size }, toks := s.toks + 1 })
  generalize ((s.heap.push { cls := .type "dict", data := .dict #[] }).update f fun o => { o with dict := some s.heap.objs.size }) = h₁ at gd0 gf0 ex0
  have nf : f ≠ s.heap.objs.size := Nat.ne_of_lt (Heap.lt_size hf)
  unfold storeInDict
  refine wpAny_bind (wpAny_of_eq (a := ()) (by rfl) ?_)
  unfold nsSet
  refine wpAny_bind (wpAny_bind (wpAny_bind (wpAny_askSetting (wpAny_pure (wpAny_bind (wpAny_mkText (wpAny_bind (wpAny_loadPart gd0 ?_))))))))
  have c : (!([] : List DictEntry).toArray.any (·.key.isStr (Str.ofString "read")) && ([] : List DictEntry).toArray.any (·.refKey)) = false := by simp
  dsimp only
  rw [aRefKeyMayBeTheName_at, c]
  refine wpAny_updatePart gd0 ?_
  have D' := Heap.get?_update_self (Obj.putName (Str.ofString "read") (PyData.keyHash w.params (Str.ofString "read")) (.str (Str.ofString "read") (s.toks + 1)) v) gd0 (by rw [putName_dict]; rfl)
  rw [putName_dict] at D'
  refine wpAny_bind (wpAny_lookBehind D' (pastItsLine_dict (by rw [List.size_toArray, sizeLine_eq]; exact Nat.le_trans (show (putL (Str.ofString "read") _ _ v []).length ≤ 1 from Nat.le_refl _) (by decide))) ?_)
  refine wpAny_pure ⟨_, rfl, wpAny_pure ?_⟩
  exact h _ _ _ _ _ (fun b o n e => (Heap.get?_update_ne _ _ _ _ (fun q => by have := Heap.lt_size e; rw [q] at this; exact absurd this (Nat.lt_irrefl _))).trans (ex0 b o n e)) ((Heap.get?_update_ne _ _ _ _ nf).trans gf0) D'
end
end Mine
end
section
open PySem PySem.W PyProof.Rows
set_option Elab.async false
set_option linter.unusedVariables false
namespace Mine
section
variable {n : Nat} {w : World} {h₀ : Heap}
theorem signs_rep {X : List Addr} {h : Heap} : ∀ (l : List Nat) (vs : List Value), vs.length = l.length → (∀ (j : Nat) v, vs[j]? = some v → ∃ c u, l[j]? = some c ∧ v = .str ⟨#[c]⟩ u) → RepL X h (l.map fun c => D.str [c]) vs
  | [], vs, hl, _ => by rw [List.map_nil, RepL.nil_iff]; exact List.length_eq_zero_iff.mp hl
  | c :: l, [], hl, _ => by simp at hl
  | c :: l, v :: vs, hl, hv => by
    rw [List.map_cons]
    obtain ⟨c', u, e, rfl⟩ := hv 0 v rfl
    have : c = c' := by simpa using e
    subst this
    exact .cons (Rep.str' (l := [c])) (signs_rep l vs (by simpa using hl) fun j v e => by
      obtain ⟨c', u', e', h'⟩ := hv (j + 1) v (by simpa using e)
      exact ⟨c', u', by simpa using e', h'⟩)
theorem fn_listS {l : List Nat} (hl : l.length ≤ sizeLine) : Fn n w h₀ (.type "list") [.str l] (.lst (l.map fun c => D.str [c])) := fun X A s vs Q E rm old lo nw r k => by
  rw [RepL.cons_iff] at r; obtain ⟨v, r', rfl, a, b⟩ := r
  rw [RepL.nil_iff] at b; subst b
  obtain ⟨t, rfl⟩ := a.str_inv
  refine call_list_str rm.handled _ _ (fun h' tk acc c' hk hg hi => ?_) (by simpa using hl)
  refine k _ _ (.heap fun b o _ e => hk b o e) (Rep.lst' (vs := acc.toList) lo.fresh ⟨_, by simpa using hg⟩ ?_)
  obtain ⟨hs, hp⟩ := hi
  refine signs_rep l acc.toList (by rw [Array.length_toList, hs]; simp) fun j v e => ?_
  obtain ⟨c, u, e1, e2⟩ := hp j v (by simpa using e)
  exact ⟨c, u, by simpa using e1, e2⟩
end
end Mine
end
section
open PySem PySem.W PyProof.Rows
set_option Elab.async false
set_option linter.unusedVariables false
namespace Mine
section
variable {c : Cx} {A : Around} {E : Value → Shared → Prop} {s : Shared} {params : Arguments} {body : Expr} {scope : Scope} {pos : Pos} {clos : List (Str × Addr)} {ps : Array Value}
theorem lamMake {Q : Value → Shared → Prop} (ok : Ok c) (hcode : c.env.code = .ref 111) (old : Ext c.h₀ s.heap) (hP : s.heap.get? 107 = some (tabObj ps)) (ht : TriplesOk ps.toList) (hnf : codeAmong pos ps.toList = none) (hcl : closureFor scope c.env = pure clos)
    (h : ∀ c' ctv pm f h' tk, Heap.ExtBut 107 s.heap h' → s.heap.get? f = none → f ≠ 107 → h'.get? f = some (kla_obj "<lambda>" (c.env.qual ++ "<lambda>") params body scope clos pm c' ctv) → h'.CodeRec (.ref c') (c.env.qual ++ "<lambda>") → h'.get? 107 = some (tabObj (ps ++ #[rawInt pos.line, rawInt pos.col, .ref c'])) → Q (.ref f) { s with heap := h', toks := tk })
    (hdef : defaultsOf params c.env = ([], []) := by rfl) : wpAny c.M A (eval (.Lambda params body scope pos) c.env) Q E s := by
  obtain ⟨mg, Tg, bm, ob, b1, b2, b3, b4, b5, b6⟩ := ok.base.bm
  have hm : ∀ b o, c.h₀.get? b = some o → b ≠ 107 := fun b o e q => by rw [q, ok.base.no] at e; cases e
  have hgP : mainGlobals ≠ 107 := by decide
  have hbG : bm ≠ mainGlobals := fun q => by
    obtain ⟨o, es, ep, e, hd, _⟩ := Tg
    rw [q, e] at b3; cases b3; rw [hd] at b6; cases b6
  refine kla_eval hdef (kla_makeFunction (mg := mg) hcl ok.glob (Tg.keeps old) hcode (ok.base.C.keeps old) hP ht hnf hgP ⟨bm, ob, b1, b2, hbG, hm _ _ b3, old _ _ b3, b4, b5, b6⟩ fun c' ctv h' tk hx hge hlt hrec htb => ?_)
  refine h c' ctv _ h'.objs.size _ tk (fun b o n e => Heap.get?_push_of_some _ (hx b o n e)) (fresh_ge (Nat.le_of_lt (Nat.lt_of_le_of_lt hge hlt))) (fun q => ?_) (Heap.get?_push_size _ rfl) ?_ (Heap.get?_push_of_some _ htb)
  · have := Heap.lt_size htb
    rw [q] at this; exact absurd this (Nat.lt_irrefl _)
  · obtain ⟨c₂, oc, vs, t, e2, hoc, hd, hv⟩ := hrec
    exact ⟨c₂, oc, vs, t, e2, Heap.get?_push_of_some _ hoc, hd, hv⟩
end
end Mine
end
section
open PySem PySem.W PyProof.Rows
set_option Elab.async false
set_option linter.unusedVariables false
set_option maxRecDepth 100000
namespace Mine
section
variable {w : World} {A : Around} {E : Value → Shared → Prop} {s : Shared} {n : Nat} {c : Cx} {pos apos : Pos}
/-- the first thing of a list is taken out -/
theorem pop0 {X : List Addr} {a : Addr} {d : D} {ds : List D} {u : Tok} {Q : Value → Shared → Prop} (L : LstAt X a (d :: ds) s.heap) (ha : a ∈ X) (hl : ds.length < sizeLine)
    (h : ∀ v s', Step [a] [] s s' → LstAt X a ds s'.heap → Rep X s'.heap d v → Q v s') : wpAny (model prog w) A (call (.builtin "list.pop") [.ref a, .int 0 u]) Q E s := by
  obtain ⟨vs, ⟨m, g⟩, r⟩ := L
  rw [RepL.cons_iff] at r
  obtain ⟨y, q, rfl, ry, rq⟩ := r
  have hq := rq.length
  have hz : (y :: q).toArray.size ≤ sizeLine := by rw [List.size_toArray, List.length_cons]; lia
  have hb : Heap.SameBut a s.heap (s.heap.update a (Obj.mapSeq fun xs => xs.eraseIdxIfInBounds 0)) := Heap.SameBut.update ..
  have hu := PySem.IsL.update g (fun xs => xs.eraseIdxIfInBounds 0)
  have he : (y :: q).toArray.eraseIdxIfInBounds 0 = q.toArray := kl_erase [] q y
  rw [he, if_neg (by simp)] at hu
  have p : Step [a] [] s { s with heap := s.heap.update a (Obj.mapSeq fun xs => xs.eraseIdxIfInBounds 0) } := Step.but (tk := s.toks) hb (by simp)
  have sub : ∀ b ∈ [a], b ∈ X := fun b m => by obtain rfl := mem1 m; exact ha
  refine call_meets PySem.F.slot_list_pop ⟨_, g, rfl⟩ PySem.F.entry_list_pop (PySem.F.args_list_pop_2 _ _) (PySem.MeetsSeq.list_pop_at a _ m 0 u 0 y (by decide) ?_ (by simp) hz) ⟨g, h _ _ p ⟨q, ⟨_, hu⟩, rq.extX (p.ext.mono sub)⟩ (ry.extX (p.ext.mono sub))⟩
  show seqIndex? 0 (y :: q).toArray.size = some 0
  unfold seqIndex?
  simp
/-- a call, kept by what stands of the heap -/
theorem callP {f : Value} {first : List Value} {es : List Expr} {P : Heap → Prop} {Q : Value → Shared → Prop} (kp : ∀ h, P h → ∃ k, (k = Keeper.frame ∨ k = Keeper.machine ∨ k = Keeper.boundFrame) ∧ Looks c.M h (keeperOf f) k)
    (key : wpAny c.M A (spliced (backTo pos (starEach es c.env))) (fun vs s' => P s'.heap ∧ wpAny c.M A (call f (first ++ vs)) Q E s') E s) (hp : (starEach es c.env).any (·.1) = false := by rfl) : wpAny c.M A (callWith pos f first (backTo pos (starEach es c.env)) []) Q E s := by
  have hp' := starless (p := pos) hp
  refine callWith_of (P := P) (by rw [hp']; rfl) kp ?_
  revert key hp'
  generalize backTo pos (starEach es c.env) = l
  intro key hp'
  cases l with
  | nil =>
    unfold evalArgs
    show wpAny _ A (spliced [] >>= _) _ E s
    refine wpAny_bind (wpAny_mono key (fun vs s' h' => ?_) fun _ _ x => x)
    refine wpAny_bind (wpAny_pure ?_)
    refine wpAny_holding ?_
    exact wpAny_bind (wpAny_pure (wpAny_bind (wpAny_pure (wpAny_pure h'))))
  | cons a r =>
    obtain ⟨st, t⟩ := a
    simp only [List.any_cons, Bool.or_eq_false_iff] at hp'
    obtain ⟨rfl, _⟩ := hp'
    exact Calls.evalArgs_plain key
theorem fn_gattr : typeLookup (.type "function") "__getattr__" = pure none := by rw [typeLookup_type, builtinLookup_eq_fast]; kernel_rfl
/-- a function object's own attribute, looked up for a call -/
theorem fnMethod {f sd : Addr} {fd : FuncData} {es : List DictEntry} {m : Nat} {v : Value} {pl : Sem Bool} {sl : Array (Option Value)} {Q : Value × List Value → Shared → Prop} (hf : s.heap.get? f = some ⟨.type "function", some sd, .func fd, sl⟩) (hd : s.heap.get? sd = some (dictOf es m)) (hl : getL (Str.ofString "read") es = some (some v)) (hv : handedIn v = true)
    (h : Q (v, []) { s with toks := s.toks + 1 }) : wpAny (model prog w) A (getMethod (.ref f) (Str.ofString "read") pl) Q E s := by
  have hT : s.TypeIs (.ref f) "function" := ⟨_, hf, rfl⟩
  have u : wpAny (model prog w) A (do return (← getAttr (.ref f) (Str.ofString "read"), ([] : List Value))) Q E s := wpAny_bind (wpAny_mono (fnAttr hf hd hl hv h) (fun _ _ z => wpAny_pure z) fun _ _ z => z)
  unfold getMethod specialOf
  refine wpAny_bind (wpAny_bind (wpAny_typeOf hT (wpAny_of_eq fn_ga ?_)))
  dsimp only
  rw [PySem.F.canon_object_ga, if_neg (by decide)]
  refine wpAny_bind (wpAny_bind (wpAny_typeOf hT (wpAny_of_eq fn_gattr ?_)))
  refine wpAny_bind (wpAny_bind (wpAny_typeOf hT (wpAny_of_eq fn_read ?_)))
  exact u
end
end Mine
end
section
open PySem PySem.W PyProof.Rows
set_option Elab.async false
set_option linter.unusedVariables false
set_option maxRecDepth 100000
namespace Mine
/-- what the reading lambda does -/
noncomputable def LamC (w : World) (h₀ : Heap) (cell : Addr) (fd : FuncData) : Prop :=
  ∀ (n : Nat) (A : Around) (s : Shared) (lam rest : Addr) (sl : Array (Option Value)) (t : Tok) (rs : List Nat) (Q : Value → Shared → Prop) (E : Value → Shared → Prop), 4 ≤ n → Rm (n + 1) A → Ext h₀ s.heap →
    s.heap.get? lam = some ⟨.type "function", none, .func fd, sl⟩ → s.heap.CodeRec fd.code fd.qualname → s.heap.IsCell cell (some (.ref rest)) → LstS rest (rs.map fun c => [c]) s.heap → rs.length ≤ 1000 →
    h₀.get? rest = none → h₀.get? cell = none → rest ≠ cell →
    (∀ v s', Step [rest] [] s s' → LstS rest (rs.tail.map fun c => [c]) s'.heap → (∃ t, v = .str ⟨(rs.take 1).toArray⟩ t) → Q v s') → wpAny (model prog w) A (call (.ref lam) [.int 1 t]) Q E s

theorem lamC_of {w : World} {h₀ : Heap} (B : Base w h₀) {cell : Addr} {qual : Str} {pm ctv : Value} {c' : Addr} {p1 p2 p3 p4 p5 p6 p7 p8 : Pos} {k1 k2 : Nat} (hline : (p3.endLine == p6.line) = true) :
    LamC w h₀ cell (kla_fn "<lambda>" qual { posonlyargs := [], args := [{ arg := "size", annotation := none, pos := p1 : PySem.Arg }], vararg := none, kwonlyargs := [], kw_defaults := [], kwarg := none, defaults := [] : PySem.Arguments }
      (.IfExp (.Name "rest" p2) (.Call (.Attribute (.Name "rest" p4) "pop" p3) [.Constant (.int 0) k1 p5] [] p6) (.Constant (.str "") k2 p7) p8)
      { kind := .function, names := [(Str.ofString "size", .local), (Str.ofString "rest", .free)], isGenerator := false, isCoroutine := false, more := [] : PySem.Scope } [(Str.ofString "rest", cell)] pm (.ref c') ctv) := by
  intro n A s lam rest sl t rs Q E hn rm old hlam hcr hcell hl hlen hr0 hc0 hrc k
  obtain ⟨p, loose, mg, mb, T⟩ := B.T
  refine wpAny_call (kla_callFunE rm.room hlam rfl rfl rfl rfl hcr ?_)
  refine wpAny_of_eq (a := [(Str.ofString "size", Value.int 1 t)]) (by rfl) ?_
  have fr := get_size s.heap
  refine wpAny_newFunctionEnv (by intro x hx; simp at hx; rcases hx with rfl | rfl <;> decide) (by intro x hx; obtain rfl := mem1 hx; rfl) (fun h₁ hns hsb => ⟨(T.nolimit.keeps old).fresh _ hsb, ?_⟩) rfl
  have hk₁ : Ext s.heap h₁ := fun b o e => hsb.extBut b o (Nat.ne_of_lt (Heap.lt_size e)) (Heap.get?_push_of_some _ e)
  refine kla_codeExpr ?_
  let c : Cx := { w, h₀, X := [s.heap.objs.size, cell, rest], env := envX qual { kind := .function, names := [(Str.ofString "size", .local), (Str.ofString "rest", .free)], isGenerator := false, isCoroutine := false, more := [] : PySem.Scope } s.heap.objs.size lam (.ref c') [(Str.ofString "rest", cell)], vs := [(Str.ofString "size", none), (Str.ofString "rest", some cell)], ds := [some (.int 1), some (.ref rest)] }
  have hcs : cell < s.heap.objs.size := by obtain ⟨o, e, _⟩ := hcell; exact Heap.lt_size e
  have hrs : rest < s.heap.objs.size := by obtain ⟨o, e⟩ := hl.there; exact Heap.lt_size e
  have ok : Ok c := by
    refine ⟨B, rfl, rfl, rfl, ?_, ?_, by show ([Str.ofString "size", Str.ofString "rest"] : List Str).Nodup; decide, by show [cell].Nodup; simp, ?_, ?_⟩
    · intro x hx
      have hx' : (x, none) ∈ [(Str.ofString "size", none), (Str.ofString "rest", some cell)] := hx
      rcases List.mem_cons.mp hx' with e | hx'
      · cases e; rfl
      · rw [List.mem_singleton] at hx'; cases hx'
    · intro x a hx
      have hx' : (x, some a) ∈ [(Str.ofString "size", none), (Str.ofString "rest", some cell)] := hx
      rcases List.mem_cons.mp hx' with e | hx'
      · cases e
      · rw [List.mem_singleton] at hx'; cases hx'; exact ⟨.inr rfl, rfl⟩
    · intro a ha
      have ha' : a ∈ [s.heap.objs.size, cell] := ha
      rcases memc ha' with rfl | ha'
      · exact .head _
      · obtain rfl := mem1 ha'; exact .tail _ (.head _)
    · intro a ha
      have ha' : a ∈ [s.heap.objs.size, cell, rest] := ha
      rcases memc ha' with rfl | ha'
      · show h₀.get? _ = none
        cases e : h₀.get? s.heap.objs.size with
        | none => rfl
        | some o => have := old _ _ e; rw [fr] at this; cases this
      · rcases memc ha' with rfl | ha'
        · exact hc0
        · obtain rfl := mem1 ha'; exact hr0
  have st : St c { s with heap := h₁, toks := s.toks + [(Str.ofString "size", Value.int 1 t)].length } := by
    refine ⟨old.trans hk₁, ?_, rfl, ⟨_, hns, ?_⟩, ?_⟩
    · intro a ha
      have ha' : a ∈ [s.heap.objs.size, cell, rest] := ha
      rcases memc ha' with rfl | ha'
      · obtain ⟨o, es, ep, g, _⟩ := hns; exact ⟨o, g⟩
      · rcases memc ha' with rfl | ha'
        · obtain ⟨o, g, _⟩ := hcell; exact ⟨o, hk₁ _ _ g⟩
        · obtain rfl := mem1 ha'; obtain ⟨o, g⟩ := hl.there; exact ⟨o, hk₁ _ _ g⟩
    · intro i x d e1 e2
      match i, e1, e2 with
      | 0, e1, e2 => cases e1; cases e2; exact ⟨_, rfl, Rep.int'⟩
      | 1, e1, e2 => cases e1
      | i + 2, e1, e2 => cases e1
    · intro i x a e1
      match i, e1 with
      | 0, e1 => cases e1
      | 1, e1 =>
        cases e1
        obtain ⟨o, g, hd⟩ := hcell
        refine ⟨_, ⟨o, hk₁ _ _ g, hd⟩, fun d e2 => ?_⟩
        cases e2; exact ⟨_, rfl, Rep.ref'⟩
      | i + 2, e1 => cases e1
  have rmd : Rm n (A.deeper c.env) := rm.deeper
  have L₁ : LstAt c.X rest ((rs.map fun c => [c]).map D.str) h₁ := LstAt.ext (LstS.at hl) hk₁
  have p0 : Pure s { s with heap := h₁, toks := s.toks + [(Str.ofString "size", Value.int 1 t)].length } := .heap hk₁.toX
  have nown : rest ∉ c.own := fun m => by
    have m' : rest ∈ [s.heap.objs.size, cell] := m
    rcases List.mem_cons.mp m' with e | m'
    · exact Nat.ne_of_lt hrs e
    · rw [List.mem_singleton] at m'; exact hrc m'
  have hsz : ((rs.map fun c => [c]).map D.str).length < 2 ^ 62 := by rw [List.length_map, List.length_map]; lia
  have tv : Tv n (c.frz rest 1 ((rs.map fun c => [c]).map D.str)) (.Name "rest" p2) (!((rs.map fun c => [c]).map D.str).isEmpty) := Tv.val (Ev.name 1) (tr_lst hsz)
  show wpAny c.M (A.deeper c.env) (eval (.IfExp (.Name "rest" p2) (.Call (.Attribute (.Name "rest" p4) "pop" p3) [.Constant (.int 0) k1 p5] [] p6) (.Constant (.str "") k2 p7) p8) c.env) _ _ _
  refine wpAny_IfExp (tv (ok.frz nown _ _) _ _ _ _ rmd (st.frz L₁ rfl) fun s₂ p₂ => ?_)
  have st₂ := st.pure p₂
  have L₂ := L₁.ext p₂.pure
  cases rs with
  | nil =>
    rw [show (!((([] : List Nat).map fun c => [c]).map D.str).isEmpty) = false from rfl, if_neg (by decide)]
    refine wpAny_Constant_str (k _ _ ((p0.trans p₂).up.trans .toks) ?_ ⟨_, rfl⟩)
    exact LstS.step (Y := []) (gs := []) hl (p0.trans (p₂.trans .toks)) (by simp)
  | cons x r =>
    rw [show (!(((x :: r).map fun c => [c]).map D.str).isEmpty) = true from rfl, if_pos rfl]
    refine wpAny_Call_method (by rfl) (by rfl) hline PySem.F.plainAttrs_list PySem.F.slot_list_pop PySem.F.type_list_pop (Ev.name 1 (c := c) rfl rfl rfl rfl ok _ s₂ _ _ rmd st₂ fun v s₃ p₃ r₃ => ?_)
    rw [r₃.ref_inv]
    have L₃ := L₂.ext p₃.pure
    refine ⟨let ⟨vs, pl, _⟩ := L₃; pl.isList.typeIs, fun b q => ?_, ?_⟩
    · cases q; obtain ⟨vs, ⟨m, g⟩, _⟩ := L₃; exact ⟨_, g, rfl⟩
    refine callW (n := n) (c := c) ok Kp.builtin (Evs.cons Ev.kInt .nil) rmd (st₂.pure p₃) (fun us s₄ p₄ r₄ => ?_) rfl
    rw [RepL.cons_iff] at r₄; obtain ⟨u, r', rfl, au, bu⟩ := r₄
    rw [RepL.nil_iff] at bu; subst bu
    obtain ⟨tt, rfl⟩ := au.int_inv
    have L₄ := L₃.ext p₄.pure
    refine pop0 (d := .str [x]) (ds := ((r.map fun c => [c]).map D.str)) L₄ (.tail _ (.tail _ (.head _))) ?_ fun v s₅ p₅ L₅ r₅ => ?_
    · rw [List.length_map, List.length_map]
      rw [List.length_cons] at hlen
      exact Nat.lt_of_lt_of_le (show r.length < 1000 by lia) (by decide)
    · refine k v s₅ ((((p0.trans p₂).trans p₃).trans p₄).up.trans p₅) (LstS.of L₅) ?_
      obtain ⟨t', rfl⟩ := r₅.str_inv
      exact ⟨t', rfl⟩
end Mine
end
section
open PySem PySem.W PyProof.Rows
set_option Elab.async false
set_option linter.unusedVariables false
set_option maxRecDepth 100000
namespace Mine
/-- the addresses of a lexer -/
structure Lx where
  x : Addr
  dx : Addr
  fs : Addr
  sd : Addr
  lam : Addr
  cell : Addr
  cd : Addr
  rest : Addr
  pb : Addr
noncomputable abbrev Lx.Y (q : Lx) : List Addr := [q.dx, q.rest, q.pb]
noncomputable abbrev Lx.fix (q : Lx) : List Addr := [q.x, q.fs, q.sd, q.lam, q.cell, q.cd]
noncomputable abbrev sgs (rs : List Nat) : List (List Nat) := rs.map fun c => [c]
noncomputable abbrev wsL : List Nat := [10, 9, 13, 32]
noncomputable abbrev lxEs (q : Lx) (i : Int) (h1 h2 h3 h4 : Int) (t1 t2 t3 t4 t5 t6 : Tok) : List DictEntry :=
  [⟨h1, .str (Str.ofString "lineno") t1, .int i t5⟩, ⟨h2, .str (Str.ofString "instream") t2, .ref q.fs⟩, ⟨h3, .str (Str.ofString "whitespace") t3, .str ⟨wsL.toArray⟩ t6⟩, ⟨h4, .str (Str.ofString "pushback") t4, .ref q.pb⟩]
structure LexAt (w : World) (h₀ : Heap) (q : Lx) (T : Int) (rs : List Nat) (ps : List (List Nat)) (h : Heap) : Prop where
  inst : ∃ sl, h.get? q.x = some ⟨.ref 101, some q.dx, .plain, sl⟩
  dict : ∃ h1 h2 h3 h4 t1 t2 t3 t4 t5 t6 m, h.get? q.dx = some (dictOf (lxEs q (T - rs.count 10) h1 h2 h3 h4 t1 t2 t3 t4 t5 t6) m)
  strm : ∃ fd hs t m sl, h.get? q.fs = some ⟨.type "function", some q.sd, .func fd, sl⟩ ∧ h.get? q.sd = some (dictOf [⟨hs, .str (Str.ofString "read") t, .ref q.lam⟩] m)
  lamb : ∃ fd sl, h.get? q.lam = some ⟨.type "function", none, .func fd, sl⟩ ∧ fd.code = .ref q.cd ∧ h.CodeRec fd.code fd.qualname ∧ LamC w h₀ q.cell fd
  cell : h.IsCell q.cell (some (.ref q.rest))
  rest : LstS q.rest (sgs rs) h
  push : LstS q.pb ps h
  ne : q.rest ≠ q.pb
  new : ∀ a ∈ q.fix ++ q.Y, h₀.get? a = none
/-- an object's kind of data -/
noncomputable def kd (o : Obj) : Nat := match o.data with
  | .plain => 0
  | .dict .. => 1
  | .func _ => 2
  | .seq .. => 3
  | .fields _ => 4
  | .cell _ => 5
  | _ => 6
section
variable {w : World} {h₀ : Heap} {q : Lx} {T : Int} {rs : List Nat} {ps : List (List Nat)}
theorem LexAt.cod {h : Heap} (x : LexAt w h₀ q T rs ps h) : ∃ o vs, h.get? q.cd = some o ∧ o.data = .fields vs := by
  obtain ⟨fd, sl, g, e, ⟨c, o, vs, t, e', ho, hd, hv⟩, _⟩ := x.lamb
  rw [e] at e'; cases e'
  exact ⟨o, vs, ho, hd⟩
theorem LexAt.there {h : Heap} (x : LexAt w h₀ q T rs ps h) : ∀ a ∈ q.fix ++ q.Y, ∃ o, h.get? a = some o := by
  intro a ha
  obtain ⟨sl, g1⟩ := x.inst
  obtain ⟨h1, h2, h3, h4, t1, t2, t3, t4, t5, t6, m, g2⟩ := x.dict
  obtain ⟨fd, hs, t, m', sl', g3, g4⟩ := x.strm
  obtain ⟨fd', sl'', g5, _⟩ := x.lamb
  obtain ⟨oc, g6, _⟩ := x.cell
  obtain ⟨od, vs, g7, _⟩ := x.cod
  obtain ⟨o8, g8⟩ := x.rest.there
  obtain ⟨o9, g9⟩ := x.push.there
  simp only [List.mem_append, List.mem_cons, List.not_mem_nil, or_false] at ha
  rcases ha with (rfl | rfl | rfl | rfl | rfl | rfl) | (rfl | rfl | rfl) <;> exact ⟨_, by assumption⟩
theorem LexAt.lowY {h : Heap} (x : LexAt w h₀ q T rs ps h) : Low q.Y h := fun a m => x.there a (List.mem_append_right _ m)
/-- nothing of the lexer is written -/
theorem LexAt.step {Y gs} {s s' : Shared} (x : LexAt w h₀ q T rs ps s.heap) (p : Step Y gs s s') (n : ∀ a ∈ q.fix ++ q.Y, a ∉ Y) : LexAt w h₀ q T rs ps s'.heap := by
  have nx := n q.x (by simp)
  have ndx := n q.dx (by simp)
  have nfs := n q.fs (by simp)
  have nsd := n q.sd (by simp)
  have nl := n q.lam (by simp)
  have nc := n q.cell (by simp)
  have ncd := n q.cd (by simp)
  have nr := n q.rest (by simp)
  have np := n q.pb (by simp)
  refine ⟨?_, ?_, ?_, ?_, ?_, x.rest.step p nr, x.push.step p np, x.ne, x.new⟩
  · obtain ⟨sl, g⟩ := x.inst; exact ⟨sl, p.ext _ _ nx g⟩
  · obtain ⟨h1, h2, h3, h4, t1, t2, t3, t4, t5, t6, m, g⟩ := x.dict; exact ⟨h1, h2, h3, h4, t1, t2, t3, t4, t5, t6, m, p.ext _ _ ndx g⟩
  · obtain ⟨fd, hs, t, m, sl, g1, g2⟩ := x.strm; exact ⟨fd, hs, t, m, sl, p.ext _ _ nfs g1, p.ext _ _ nsd g2⟩
  · obtain ⟨fd, sl, g, e, ⟨c, o, vs, t, e', ho, hd, hv⟩, hL⟩ := x.lamb
    refine ⟨fd, sl, p.ext _ _ nl g, e, ⟨c, o, vs, t, e', p.ext _ _ ?_ ho, hd, hv⟩, hL⟩
    rw [e] at e'; cases e'; exact ncd
  · obtain ⟨o, g, hd⟩ := x.cell; exact ⟨o, p.ext _ _ nc g, hd⟩
theorem LexAt.pure {s s' : Shared} (x : LexAt w h₀ q T rs ps s.heap) (p : Pure s s') : LexAt w h₀ q T rs ps s'.heap := x.step p (by simp)
/-- what the lexer writes lies apart from what it keeps -/
theorem LexAt.apart {h : Heap} (x : LexAt w h₀ q T rs ps h) : (∀ a ∈ q.fix, a ∉ q.Y) ∧ q.dx ≠ q.rest ∧ q.dx ≠ q.pb := by
  obtain ⟨sl, g1⟩ := x.inst
  obtain ⟨h1, h2, h3, h4, t1, t2, t3, t4, t5, t6, m, g2⟩ := x.dict
  obtain ⟨fd, hs, t, m', sl', g3, g4⟩ := x.strm
  obtain ⟨fd', sl'', g5, _⟩ := x.lamb
  obtain ⟨oc, g6, e6⟩ := x.cell
  obtain ⟨od, vs, g7, e7⟩ := x.cod
  obtain ⟨v8, ⟨m8, g8⟩, _⟩ := x.rest
  obtain ⟨v9, ⟨m9, g9⟩, _⟩ := x.push
  have key : ∀ {a b : Addr} {o o' : Obj}, h.get? a = some o → h.get? b = some o' → kd o ≠ kd o' → a ≠ b := fun ga gb f e => by rw [e, gb] at ga; cases ga; exact f rfl
  have k6 : kd oc = 5 := by unfold kd; rw [e6]
  have k7 : kd od = 4 := by unfold kd; rw [e7]
  have sd1 : q.sd ≠ q.dx := fun e => by
    rw [e, g2] at g4
    have := congrArg (fun o : Option Obj => match o with | some o => (match o.data with | .dict es _ => es.toList.length | _ => 0) | none => 0) g4
    simp at this
  refine ⟨fun a ha hy => ?_, key g2 g8 (by show (1 : Nat) ≠ 3; decide), key g2 g9 (by show (1 : Nat) ≠ 3; decide)⟩
  simp only [List.mem_cons, List.not_mem_nil, or_false] at ha hy
  rcases hy with rfl | rfl | rfl <;> rcases ha with e | e | e | e | e | e
  · exact key g2 g1 (by show (1 : Nat) ≠ 0; decide) e
  · exact key g2 g3 (by show (1 : Nat) ≠ 2; decide) e
  · exact sd1 e.symm
  · exact key g2 g5 (by show (1 : Nat) ≠ 2; decide) e
  · exact key g2 g6 (by rw [k6]; show (1 : Nat) ≠ 5; decide) e
  · exact key g2 g7 (by rw [k7]; show (1 : Nat) ≠ 4; decide) e
  · exact key g8 g1 (by show (3 : Nat) ≠ 0; decide) e
  · exact key g8 g3 (by show (3 : Nat) ≠ 2; decide) e
  · exact key g8 g4 (by show (3 : Nat) ≠ 1; decide) e
  · exact key g8 g5 (by show (3 : Nat) ≠ 2; decide) e
  · exact key g8 g6 (by rw [k6]; show (3 : Nat) ≠ 5; decide) e
  · exact key g8 g7 (by rw [k7]; show (3 : Nat) ≠ 4; decide) e
  · exact key g9 g1 (by show (3 : Nat) ≠ 0; decide) e
  · exact key g9 g3 (by show (3 : Nat) ≠ 2; decide) e
  · exact key g9 g4 (by show (3 : Nat) ≠ 1; decide) e
  · exact key g9 g5 (by show (3 : Nat) ≠ 2; decide) e
  · exact key g9 g6 (by rw [k6]; show (3 : Nat) ≠ 5; decide) e
  · exact key g9 g7 (by rw [k7]; show (3 : Nat) ≠ 4; decide) e
theorem LexAt.instAt {h : Heap} (x : LexAt w h₀ q T rs ps h) : ∃ ox h1 h2 h3 h4 t1 t2 t3 t4 t5 t6 m, InstAt h q.x ox 101 (some (dictOf (lxEs q (T - rs.count 10) h1 h2 h3 h4 t1 t2 t3 t4 t5 t6) m)) ∧ ox.dict = some q.dx ∧
    h.get? q.dx = some (dictOf (lxEs q (T - rs.count 10) h1 h2 h3 h4 t1 t2 t3 t4 t5 t6) m) := by
  obtain ⟨sl, g1⟩ := x.inst
  obtain ⟨h1, h2, h3, h4, t1, t2, t3, t4, t5, t6, m, g2⟩ := x.dict
  exact ⟨_, h1, h2, h3, h4, t1, t2, t3, t4, t5, t6, m, ⟨g1, rfl, rfl, g2⟩, rfl, g2⟩
/-- a lexer's own attribute -/
theorem LexAt.get {A : Around} {E : Value → Shared → Prop} {s : Shared} {name : Str} {expr : Bool} {Q : Value → Shared → Prop} {v : Int → Tok → Tok → Value} (B : Base w h₀) (old : Ext h₀ s.heap) (x : LexAt w h₀ q T rs ps s.heap)
    (hl : ∀ i h1 h2 h3 h4 t1 t2 t3 t4 t5 t6, getL name (lxEs q i h1 h2 h3 h4 t1 t2 t3 t4 t5 t6) = some (some (v i t5 t6))) (hv : ∀ i t5 t6, handedIn (v i t5 t6) = true) (hf : ∀ w, findIn (KF w) (.ref 101) name = some none)
    (k : ∀ t5 t6, Q (v (T - rs.count 10) t5 t6) { s with toks := s.toks + 1 }) : wpAny (model prog w) A (getAttr (.ref q.x) name expr) Q E s := by
  obtain ⟨ox, h1, h2, h3, h4, t1, t2, t3, t4, t5, t6, m, I, _, _⟩ := x.instAt
  exact get_value (B.K.keeps old) I (plainGet_of (C := 101) (name := name) (by show plainGet (KF w) 101 name = true; exact (by rfl : plainGet (KF w) 101 "lineno" = true))).1 (findObj_own (by rfl) (hf w) (by rfl) (hl ..)) (hv ..) (k t5 t6)
end
end Mine
end
section
open PySem PySem.W PyProof.Rows
set_option Elab.async false
set_option linter.unusedVariables false
set_option maxRecDepth 100000
namespace Mine
/-- line ends at the front -/
noncomputable def nl1 (rs : List Nat) : Int := if rs.head? = some 10 then 1 else 0
theorem nl1_count (T : Int) (rs : List Nat) : T - rs.count 10 = (T - nl1 rs) - rs.tail.count 10 := by
  cases rs with
  | nil => simp [nl1]
  | cons c r =>
    unfold nl1
    by_cases h : c = 10
    · subst h; simp; lia
    · simp [h]
section
variable {w : World} {h₀ : Heap} {q : Lx} {T : Int} {rs : List Nat} {ps : List (List Nat)}
theorem LexAt.popped {s s' : Shared} (x : LexAt w h₀ q T rs ps s.heap) (p : Step [q.rest] [] s s') (hr : LstS q.rest (sgs rs.tail) s'.heap) : LexAt w h₀ q (T - nl1 rs) rs.tail ps s'.heap := by
  obtain ⟨ap, d1, d2⟩ := x.apart
  have nf : ∀ a ∈ q.fix, a ∉ [q.rest] := fun a m z => ap a m (by obtain rfl := mem1 z; simp)
  have ndx : q.dx ∉ [q.rest] := by simpa using d1
  have np : q.pb ∉ [q.rest] := by simpa using x.ne.symm
  refine ⟨?_, ?_, ?_, ?_, ?_, hr, x.push.step p np, x.ne, x.new⟩
  · obtain ⟨sl, g⟩ := x.inst; exact ⟨sl, p.ext _ _ (nf _ (by simp)) g⟩
  · obtain ⟨h1, h2, h3, h4, t1, t2, t3, t4, t5, t6, m, g⟩ := x.dict; rw [nl1_count] at g; exact ⟨h1, h2, h3, h4, t1, t2, t3, t4, t5, t6, m, p.ext _ _ ndx g⟩
  · obtain ⟨fd, hs, t, m, sl, g1, g2⟩ := x.strm; exact ⟨fd, hs, t, m, sl, p.ext _ _ (nf _ (by simp)) g1, p.ext _ _ (nf _ (by simp)) g2⟩
  · obtain ⟨fd, sl, g, e, ⟨c, o, vs, t, e', ho, hd, hv⟩, hL⟩ := x.lamb
    refine ⟨fd, sl, p.ext _ _ (nf _ (by simp)) g, e, ⟨c, o, vs, t, e', p.ext _ _ ?_ ho, hd, hv⟩, hL⟩
    rw [e] at e'; cases e'; exact nf _ (by simp)
  · obtain ⟨o, g, hd⟩ := x.cell; exact ⟨o, p.ext _ _ (nf _ (by simp)) g, hd⟩
/-- the pushed words change -/
theorem LexAt.pushed {s s' : Shared} {ps'} (x : LexAt w h₀ q T rs ps s.heap) (p : Step [q.pb] [] s s') (hr : LstS q.pb ps' s'.heap) : LexAt w h₀ q T rs ps' s'.heap := by
  obtain ⟨ap, d1, d2⟩ := x.apart
  have nf : ∀ a ∈ q.fix, a ∉ [q.pb] := fun a m z => ap a m (by obtain rfl := mem1 z; simp)
  have ndx : q.dx ∉ [q.pb] := by simpa using d2
  have np : q.rest ∉ [q.pb] := by simpa using x.ne
  refine ⟨?_, ?_, ?_, ?_, ?_, x.rest.step p np, hr, x.ne, x.new⟩
  · obtain ⟨sl, g⟩ := x.inst; exact ⟨sl, p.ext _ _ (nf _ (by simp)) g⟩
  · obtain ⟨h1, h2, h3, h4, t1, t2, t3, t4, t5, t6, m, g⟩ := x.dict; exact ⟨h1, h2, h3, h4, t1, t2, t3, t4, t5, t6, m, p.ext _ _ ndx g⟩
  · obtain ⟨fd, hs, t, m, sl, g1, g2⟩ := x.strm; exact ⟨fd, hs, t, m, sl, p.ext _ _ (nf _ (by simp)) g1, p.ext _ _ (nf _ (by simp)) g2⟩
  · obtain ⟨fd, sl, g, e, ⟨c, o, vs, t, e', ho, hd, hv⟩, hL⟩ := x.lamb
    refine ⟨fd, sl, p.ext _ _ (nf _ (by simp)) g, e, ⟨c, o, vs, t, e', p.ext _ _ ?_ ho, hd, hv⟩, hL⟩
    rw [e] at e'; cases e'; exact nf _ (by simp)
  · obtain ⟨o, g, hd⟩ := x.cell; exact ⟨o, p.ext _ _ (nf _ (by simp)) g, hd⟩
/-- the line count changes -/
theorem LexAt.lined {s s' : Shared} {T'} (x : LexAt w h₀ q T rs ps s.heap) (p : Step [q.dx] [] s s') (hr : ∃ h1 h2 h3 h4 t1 t2 t3 t4 t5 t6 m, s'.heap.get? q.dx = some (dictOf (lxEs q (T' - rs.count 10) h1 h2 h3 h4 t1 t2 t3 t4 t5 t6) m)) : LexAt w h₀ q T' rs ps s'.heap := by
  obtain ⟨ap, d1, d2⟩ := x.apart
  have nf : ∀ a ∈ q.fix, a ∉ [q.dx] := fun a m z => ap a m (by obtain rfl := mem1 z; simp)
  have nr : q.rest ∉ [q.dx] := by simpa using d1.symm
  have np : q.pb ∉ [q.dx] := by simpa using d2.symm
  refine ⟨?_, hr, ?_, ?_, ?_, x.rest.step p nr, x.push.step p np, x.ne, x.new⟩
  · obtain ⟨sl, g⟩ := x.inst; exact ⟨sl, p.ext _ _ (nf _ (by simp)) g⟩
  · obtain ⟨fd, hs, t, m, sl, g1, g2⟩ := x.strm; exact ⟨fd, hs, t, m, sl, p.ext _ _ (nf _ (by simp)) g1, p.ext _ _ (nf _ (by simp)) g2⟩
  · obtain ⟨fd, sl, g, e, ⟨c, o, vs, t, e', ho, hd, hv⟩, hL⟩ := x.lamb
    refine ⟨fd, sl, p.ext _ _ (nf _ (by simp)) g, e, ⟨c, o, vs, t, e', p.ext _ _ ?_ ho, hd, hv⟩, hL⟩
    rw [e] at e'; cases e'; exact nf _ (by simp)
  · obtain ⟨o, g, hd⟩ := x.cell; exact ⟨o, p.ext _ _ (nf _ (by simp)) g, hd⟩
end

section
variable {n : Nat} {c : Cx} {A : Around} {s : Shared} {E : Value → Shared → Prop} {q : Lx} {T : Int} {rs : List Nat} {ps : List (List Nat)} {x : Str}
/-- name.attr of a lexer -/
theorem lexGet {name : Str} {p pos : Pos} {Q : Value → Shared → Prop} {v : Int → Tok → Tok → Value} (i : Nat) {sl'} (ok : Ok c) (rm : Rm n A) (st : St c s) (L : LexAt c.w c.h₀ q T rs ps s.heap)
    (k : ∀ t5 t6 s', Pure s s' → St c s' → LexAt c.w c.h₀ q T rs ps s'.heap → Q (v (T - rs.count 10) t5 t6) s')
    (hl : ∀ i h1 h2 h3 h4 t1 t2 t3 t4 t5 t6, getL name (lxEs q i h1 h2 h3 h4 t1 t2 t3 t4 t5 t6) = some (some (v i t5 t6))) (hv : ∀ i t5 t6, handedIn (v i t5 t6) = true := by intro _ _ _; rfl) (hf : ∀ w, findIn (KF w) (.ref 101) name = some none := by intro _; rfl)
    (hi : c.vs[i]? = some (x, sl') := by rfl) (hd : c.ds[i]? = some (some (.ref q.x)) := by rfl) (hx : (x == ("__debug__" : Str)) = false := by rfl) (hc : (x == ("__classdict__" : Str)) = false := by rfl)
    (he : eval (.Attribute (.Name x p) name pos) c.env = (do
      let o ← eval (.Name x p) c.env
      standAt pos.atName
      let r ← holding [o] (getAttr o name true)
      letTemporaryGo (.Name x p) o r
      pure r) := by rfl) : wpAny c.M A (eval (.Attribute (.Name x p) name pos) c.env) Q E s := by
  refine Attribute_Name_ (Ev.name (n := n) i hi hd hx hc ok A s _ _ rm st fun u s₁ p₁ r₁ => ?_) he
  rw [r₁.ref_inv]
  have st₁ := st.pure p₁
  exact LexAt.get ok.base st₁.old (L.pure p₁) hl hv hf fun t5 t6 => k t5 t6 _ (p₁.trans .toks) (st₁.pure .toks) ((L.pure p₁).pure .toks)
/-- self.instream.read(1) -/
theorem lexRead {p1 p2 p3 p4 p5 : Pos} {k1 : Nat} {Q : Value → Shared → Prop} (i : Nat) {sl'} (ok : Ok c) (rm : Rm (n + 1) A) (hn : 4 ≤ n) (st : St c s) (L : LexAt c.w c.h₀ q T rs ps s.heap) (hlen : rs.length ≤ 1000) (hY : ∀ a ∈ q.Y, a ∈ c.X) (hO : ∀ a ∈ c.own, a ∉ q.Y)
    (k : ∀ v s', Step [q.rest] [] s s' → St c s' → LexAt c.w c.h₀ q (T - nl1 rs) rs.tail ps s'.heap → Rep c.X s'.heap (.str (rs.take 1)) v → Q v s') (hline : (p3.endLine == p5.line) = true := by rfl)
    (hi : c.vs[i]? = some (x, sl') := by rfl) (hd : c.ds[i]? = some (some (.ref q.x)) := by rfl) (hx : (x == ("__debug__" : Str)) = false := by rfl) (hc : (x == ("__classdict__" : Str)) = false := by rfl)
    (he : eval (.Attribute (.Name x p1) "instream" p2) c.env = (do
      let o ← eval (.Name x p1) c.env
      standAt p2.atName
      let r ← holding [o] (getAttr o "instream" true)
      letTemporaryGo (.Name x p1) o r
      pure r) := by rfl)
    (hb : attributeBase (.Attribute (.Name x p1) "instream" p2) "read" c.env (eval (.Attribute (.Name x p1) "instream" p2) c.env) = eval (.Attribute (.Name x p1) "instream" p2) c.env := by rfl)
    (hfew : methodCallForm (([.Constant (.int 1) k1 p4] : List Expr).length + 0) (backTo p5 (starEach [.Constant (.int 1) k1 p4] c.env)) [] = true := by rfl)
    (hs1 : starEach [.Constant (.int 1) k1 p4] c.env = (false, eval (.Constant (.int 1) k1 p4) c.env) :: starEach [] c.env := by rfl)
    (hp : (starEach [.Constant (.int 1) k1 p4] c.env).any (·.1) = false := by rfl) :
    wpAny c.M A (eval (.Call (.Attribute (.Attribute (.Name x p1) "instream" p2) "read" p3) [.Constant (.int 1) k1 p4] [] p5) c.env) Q E s := by
  rw [arm_call_meth, hb]
  refine wpAny_bind (lexGet (n := n + 1) (v := fun _ _ _ => .ref q.fs) i ok rm st L (fun _ _ s₁ p₁ st₁ L₁ => ?_) (fun _ _ _ _ _ _ _ _ _ _ _ => by rfl) (fun _ _ _ => rfl) (fun _ => rfl) hi hd hx hc he)
  refine wpAny_bind (wpAny_standAt ?_)
  have hpos : methodCallPos true (.Attribute (.Name x p1) "instream" p2) c.env p3 p5 = pure p5 := by unfold methodCallPos; simp [hline]
  unfold methodCall
  rw [hfew]
  obtain ⟨fd, hs, t, m, sl, g3, g4⟩ := L₁.strm
  refine wpAny_bind (wpAny_holding (fnMethod g3 g4 (by rfl) rfl ?_))
  refine wpAny_bind (wpAny_of_eq hpos ?_)
  have pt : Pure s₁ { s₁ with toks := s₁.toks + 1 } := .toks
  have st₂ := st₁.pure pt
  have L₂ := L₁.pure pt
  refine callP (P := FnAt q.lam) (fun h X => keeps_F h X) ?_ hp
  refine Evs.cons (n := n + 1) Ev.kInt .nil hs1 ok A _ p5 _ E rm st₂ fun vs s₃ p₃ r₃ => ?_
  have st₃ := st₂.pure p₃
  have L₃ := L₂.pure p₃
  obtain ⟨fd', sl', g5, ec, hcr, hL⟩ := L₃.lamb
  refine ⟨⟨_, _, _, _, g5⟩, ?_⟩
  rw [RepL.cons_iff] at r₃; obtain ⟨u, r', rfl, au, bu⟩ := r₃
  rw [RepL.nil_iff] at bu; subst bu
  obtain ⟨tt, rfl⟩ := au.int_inv
  obtain ⟨ap, d1, d2⟩ := L₃.apart
  refine hL n A s₃ q.lam q.rest sl' tt rs Q E hn rm st₃.old g5 hcr L₃.cell L₃.rest hlen (L₃.new _ (by simp)) (L₃.new _ (by simp)) (fun e => ap q.cell (by simp) (by rw [← e]; simp)) fun v s₄ p₄ r₄ hv => ?_
  have sub : ∀ b ∈ [q.rest], b ∈ c.X := fun b m => by obtain rfl := mem1 m; exact hY _ (by simp)
  refine k v s₄ (((p₁.trans pt).trans p₃).up.trans p₄) (st₃.step p₄ sub (fun b m z => by obtain rfl := mem1 z; exact hO _ m (by simp)) (fun b o e z => by obtain rfl := mem1 z; rw [L₃.new _ (by simp)] at e; cases e) ?_) (L₃.popped p₄ r₄) ?_
  · obtain ⟨o, g⟩ := r₄.there; exact Low.cons g Low.nil
  · obtain ⟨t, rfl⟩ := hv; exact Rep.str'
end
end Mine
end
section
open PySem PySem.W PyProof.Rows
set_option Elab.async false
set_option linter.unusedVariables false
set_option maxRecDepth 100000
set_option pp.deepTerms false
set_option pp.deepTerms.threshold 4
namespace Mine
theorem evRun {n : Nat} {c : Cx} {A : Around} {s : Shared} {Q : Value → Shared → Prop} {E : Value → Shared → Prop} {e : Expr} {d : D} {w' : World} {env' : Env} (ok : Ok c) (rm : Rm n A) (st : St c s) (he : Ev n c e d) (k : ∀ v s', Pure s s' → Rep c.X s'.heap d v → Q v s') (he' : env' = c.env := by rfl) (hw' : w' = c.w := by rfl) : wpAny (model prog w') A (eval e env') Q E s := by
  subst he' hw'
  exact he ok A s Q E rm st k
noncomputable abbrev Lx.all (q : Lx) : List Addr := q.fix ++ q.Y
theorem Lx.all1 {q : Lx} {gs} {s s' : Shared} {a : Addr} {Z : List Addr} (p : Step [a] gs s s') (h : a ∈ Z) : Step Z gs s s' := p.mono (fun b m => by obtain rfl := mem1 m; exact h) (fun _ h => h)
section
variable {w : World} {h₀ : Heap} {q : Lx} {T : Int} {rs : List Nat} {ps : List (List Nat)}
set_option maxHeartbeats 1000000 in
/-- _read_char -/
theorem readChar (B : Base w h₀) {n : Nat} (hn : 4 ≤ n) (hlen : rs.length ≤ 1000) :
    ∀ (A : Around) (s : Shared) (Q : Value → Shared → Prop) (E : Value → Shared → Prop), Rm (n + 2) A → Ext h₀ s.heap → LexAt w h₀ q T rs ps s.heap →
      (∀ v s', Step q.all [] s s' → LexAt w h₀ q T rs.tail ps s'.heap → (∃ t, v = .str ⟨(rs.take 1).toArray⟩ t) → Q v s') → codeAny (model prog w) A (.call (.ref 84) ⟨[.ref q.x], []⟩) (fun r s' => match r with | .ok (.ret v) => Q v s' | .ok _ => False | .error e => E e s') s := by
  intro A s Q E rm old L k
  refine fn_enterYc (n := n + 1) q.all (o := _) (fd := _) (body := _) (params := [Str.ofString "self"]) (args := [.ref q.x]) (d := .str (rs.take 1)) q.all (fun s => LexAt w h₀ q T rs ps s.heap) (fun s => LexAt w h₀ q T rs.tail ps s.heap) (fun s s' h p => h.pure p) B rfl rfl rfl rfl rfl rfl rfl (fun vals h => ?_) (by decide) (by decide) rfl (by decide) rfl rfl rfl rfl ?_
    A s [.ref q.x] Q E rm old L.there L.new (.cons Rep.ref' .nil) L (fun _ h => h) (fun v s' p L' r => k v s' p L' (r.str_inv))
  · exact bindv1 h fun a => rfl
  · intro A s La Q E ok rm st L hY hO k1 k2
    have hYc := fun (a : Addr) (m : a ∈ q.Y) => List.mem_append_right q.fix m
    refine wpAny_execs_cons (wpAny_Assign_Name (lexRead 0 ok rm hn st L hlen (fun a m => List.mem_append_right _ (hYc a m)) (fun a m z => hO a m (hYc a z)) fun v s₁ p₁ st₁ L₁ r₁ => ?_) rfl)
    refine store 1 rfl ok st₁ r₁ (.inl rfl) (fun _ h => nomatch h) fun s₂ p₂ st₂ => ?_
    have L₂ := L₁.step p₂ (fun a m z => hO a (Cx.wr_own z) m)
    have p12 := (Lx.all1 (q := q) p₁ (List.mem_append_right _ (hYc q.rest (by simp)))).trans (p₂.mono (fun a m => List.mem_append_left q.all m) (by simp))
    refine sIf (ok.wd _) rm st₂ (Tv.cmp (Ev.name 1) Ev.kStr op_eqs) (fun hb s₃ p₃ st₃ => ?_) (fun hb s₃ p₃ st₃ => ?_)
    · have h1 : nl1 rs = 1 := by
        cases rs with
        | nil => exact absurd hb (by decide)
        | cons x r =>
          have : x = 10 := by
            have h2 : ([x] : List Nat) = [10] := eq_of_beq hb
            simpa using h2
          subst this; rfl
      have L₃ := L₂.pure p₃
      refine wpAny_execs_cons (wpAny_AugAssign_AttributeAny (evRun (ok.wd _) rm st₃ (Ev.name 0) fun u s₄ p₄ r₄ => ?_))
      rw [r₄.ref_inv]
      have st₄ := st₃.pure p₄
      have L₄ := L₃.pure p₄
      refine LexAt.get (v := fun i t5 _ => .int i t5) B st₄.old L₄ (fun _ _ _ _ _ _ _ _ _ _ _ => by rfl) (fun _ _ _ => rfl) (fun _ => rfl) fun t5 _ => ?_
      have pt : Pure s₄ { s₄ with toks := s₄.toks + 1 } := .toks
      have st₅ := st₄.pure pt
      have L₅ := L₄.pure pt
      refine evRun (ok.wd _) rm st₅ Ev.kInt fun u s₆ p₆ r₆ => ?_
      have st₆ := st₅.pure p₆
      have L₆ := L₅.pure p₆
      refine op_iadd (n := n + 1) _ A s₆ _ _ _ _ rm st₆.low Rep.int' r₆ fun u' s₇ p₇ r₇ => ?_
      have st₇ := st₆.pure p₇
      have L₇ := L₆.pure p₇
      obtain ⟨t', rfl⟩ := r₇.int_inv
      obtain ⟨ox, h1', h2, h3, h4, t1, t2, t3, t4, t5', t6, m, I, hd, D⟩ := L₇.instAt
      refine setA (C := 101) (K := KF w) (B.K.keeps st₇.old) D I hd (by rfl) (by rfl) (by rfl) (by rfl) (by rfl) (es' := lxEs q (T - nl1 rs - rs.tail.count 10 + 1) h1' h2 h3 h4 t1 t2 t3 t4 t' t6) (n' := m) (by rfl) (by show 4 ≤ 1000; decide) fun h' hs hD => ?_
      have pp : Step [q.dx] [] s₇ { s₇ with heap := h', toks := s₇.toks + 2 } := .but hs (by simp)
      have L₈ : LexAt w h₀ q T rs.tail ps h' := L₇.lined pp ⟨h1', h2, h3, h4, t1, t2, t3, t4, t', t6, m, by rw [show T - rs.tail.count 10 = T - nl1 rs - rs.tail.count 10 + 1 by lia]; exact hD⟩
      have st₈ := st₇.step pp (fun b mm => List.mem_append_right _ (by obtain rfl := mem1 mm; simp)) (fun b mm z => hO b mm (by obtain rfl := mem1 z; simp)) (fun b o e z => by obtain rfl := mem1 z; rw [L.new _ (by simp)] at e; cases e) (Low.cons hD Low.nil)
      have pz := p12.trans (((((p₃.trans p₄).trans pt).trans p₆).trans p₇).up.trans (Lx.all1 (q := q) pp (List.mem_append_right _ (List.mem_append_right _ (by simp)))))
      refine sNil (sReturn (ok.wd _) rm st₈ (Ev.name 1) fun v s₉ p₉ r₉ => ?_)
      exact k1 v s₉ (pz.trans p₉.up) (L₈.pure p₉) r₉
    · have h1 : nl1 rs = 0 := by
        cases rs with
        | nil => rfl
        | cons x r =>
          unfold nl1
          rw [if_neg]
          intro e
          have : x = 10 := by simpa using e
          subst this
          exact absurd (show (([10] : List Nat) == [10]) = false from hb) (by decide)
      rw [h1, Int.sub_zero] at L₂
      refine sNil (sReturn (ok.wd _) rm st₃ (Ev.name 1) fun v s₉ p₉ r₉ => ?_)
      exact k1 v s₉ ((p12.trans p₃.up).trans p₉.up) ((L₂.pure p₃).pure p₉) r₉
end
end Mine
end
section
open PySem PySem.W PyProof.Rows
set_option Elab.async false
set_option linter.unusedVariables false
set_option maxRecDepth 100000
set_option pp.deepTerms false
set_option pp.deepTerms.threshold 4
namespace Mine
theorem mth_call : typeLookup (.type "method") "__call__" = pure (some (.builtin "method.__call__")) := by
  rw [typeLookup_type, builtinLookup_eq_fast]; kernel_rfl
section
variable {w : World} {h₀ : Heap} {q : Lx} {T : Int} {rs : List Nat} {ps : List (List Nat)}
theorem iterNew {A : Around} {s : Shared} {Q : Value → Shared → Prop} {E : Value → Shared → Prop} {b f : Addr} {x sent : Value} (hb : s.heap.get? b = some (methodObj (.ref f) x))
    (k : ∀ tk, Q (.ref s.heap.objs.size) { s with heap := s.heap.push (ciObj (.ref b) sent false), toks := tk }) : wpAny (model prog w) A (call (.builtin "iter") [.ref b, sent]) Q E s := by
  have hT : s.TypeIs (.ref b) "method" := ⟨_, hb, rfl⟩
  refine Calls.call_function_entry kind_iter plain_iter entry_iter' (args_iter_2 _ _) ?_
  unfold Builtin.«iter»
  refine wpAny_bind (wpAny_of_eq (a := [Value.ref b, sent]) (by rfl) ?_)
  dsimp only
  unfold specialOf
  refine wpAny_bind (wpAny_bind (wpAny_typeOf hT (wpAny_of_eq mth_call ?_)))
  rw [show (some (Value.builtin "method.__call__")).isNone = false from rfl, if_neg (by decide)]
  refine wpAny_bind (wpAny_rule ?_)
  refine wpAny_bind ?_
  unfold newFields
  refine wpAny_newObj_type ?_ (by size_fits)
  exact wpAny_pure ⟨_, rfl, k _⟩
/-- the walk over a lexer's signs -/
noncomputable def CiAt (q : Lx) (I b : Addr) (e : Bool) (h : Heap) : Prop := (if e then h.get? I = some (ciObj .none .none true) else ∃ t, h.get? I = some (ciObj (.ref b) (.str ⟨#[]⟩ t) false)) ∧ h.get? b = some (methodObj (.ref 84) (.ref q.x))
theorem CiAt.there {I b : Addr} {e : Bool} {h : Heap} (x : CiAt q I b e h) : ∃ o, h.get? I = some o := by
  unfold CiAt at x
  cases e with
  | true => exact ⟨_, by simpa using x.1⟩
  | false => obtain ⟨t, g⟩ : ∃ t, h.get? I = some (ciObj (.ref b) (.str ⟨#[]⟩ t) false) := by simpa using x.1
             exact ⟨_, g⟩
theorem CiAt.step {I b : Addr} {e : Bool} {Y gs} {s s' : Shared} (x : CiAt q I b e s.heap) (p : Step Y gs s s') (n1 : I ∉ Y) (n2 : b ∉ Y) : CiAt q I b e s'.heap := by
  unfold CiAt at x ⊢
  refine ⟨?_, p.ext _ _ n2 x.2⟩
  cases e with
  | true => simp only [if_true] at x ⊢; exact p.ext _ _ n1 x.1
  | false =>
    obtain ⟨x1, x2⟩ := x
    simp only [Bool.false_eq_true, if_false] at x1 ⊢
    obtain ⟨t, g⟩ := x1
    exact ⟨t, p.ext _ _ n1 g⟩
/-- one step of the walk -/
theorem ciStep (B : Base w h₀) {n : Nat} (hn : 4 ≤ n) {I b : Addr} {e : Bool} {A : Around} {s : Shared} {Q : Option Value → Shared → Prop} {E : Value → Shared → Prop} (rm : Rm (n + 3) A) (old : Ext h₀ s.heap) (L : LexAt w h₀ q T rs ps s.heap) (C : CiAt q I b e s.heap) (hlen : rs.length ≤ 1000)
    (nI : I ∉ q.all) (nb : b ∉ q.all) (nIb : b ≠ I) (he : e = true → rs = [])
    (k0 : rs = [] → ∀ s', Step (I :: q.all) [] s s' → LexAt w h₀ q T [] ps s'.heap → CiAt q I b true s'.heap → Q none s')
    (k1 : ∀ c r t, rs = c :: r → ∀ s', Step (I :: q.all) [] s s' → LexAt w h₀ q T r ps s'.heap → CiAt q I b false s'.heap → Q (some (.str ⟨[c].toArray⟩ t)) s') : wpAny (model prog w) A (pyNext (.ref I)) Q E s := by
  have C' := C
  unfold CiAt at C'
  obtain ⟨hI, hb⟩ := C'
  cases e with
  | true =>
    have hr := he rfl
    subst hr
    refine ci_ended rm.handled (by simpa using hI) fun h' hk => ?_
    have p : Pure s { s with heap := h' } := Step.heap (tk := s.toks) (fun b o _ g => hk b o g)
    exact k0 rfl _ p.up (L.pure p) (C.step p (by simp) (by simp))
  | false =>
    obtain ⟨t, hI⟩ : ∃ t, s.heap.get? I = some (ciObj (.ref b) (.str ⟨#[]⟩ t) false) := by simpa using hI
    obtain ⟨of, fd, h84, hd⟩ : ∃ of fd, (KF w).lookup 84 = some of ∧ of.data = .func fd := ⟨_, _, rfl, rfl⟩
    have hf := (B.K.keeps old) 84 _ h84
    have rd : ∀ (Q' : Value → Shared → Prop), (∀ v s', Step q.all [] s s' → LexAt w h₀ q T rs.tail ps s'.heap → (∃ t, v = .str ⟨(rs.take 1).toArray⟩ t) → Q' v s') → wpAny (model prog w) A.in1 (callBorrowed (.ref b) []) Q' (fun _ _ => False) s := fun Q' k =>
      wpAny_callBorrowed (ks_codeAny_call_bound hb (readChar B hn hlen A.in1 s Q' (fun _ _ => False) rm.in1 old L k))
    cases rs with
    | cons c r =>
      refine ci_next hI hb hf hd (rd _ fun v s₁ p₁ L₁ hv => ?_)
      obtain ⟨t', rfl⟩ := hv
      have C₁ := C.step p₁ nI nb
      refine ⟨p₁.ext _ _ nI hI, eqBool_str ⟨?_, k1 c r t' rfl s₁ (p₁.mono (fun a m => .tail _ m) (by simp)) L₁ C₁⟩⟩
      show ((⟨#[]⟩ : Str) == ⟨[c].toArray⟩) = false
      rw [beq_eq_false_iff_ne]
      intro h
      have := congrArg (fun s : Str => s.cps.size) h
      simp at this
    | nil =>
      refine ci_end rm.handled hI hb hf hd (rd _ fun v s₁ p₁ L₁ hv => ?_)
      obtain ⟨t', rfl⟩ := hv
      refine ⟨p₁.ext _ _ nI hI, p₁.ext _ _ nb hb, (B.K.keeps (fun b o g => p₁.ext b o (fun m => by rw [L.new _ m] at g; cases g) (old b o g))) 84 _ h84, eqBool_str ⟨rfl, rfl⟩, fun h' hk g => ?_⟩
      have p2 : Step [I] [] s₁ { s₁ with heap := h' } := Step.heap (tk := s₁.toks) (fun b o n g => hk b o (by simpa using n) g)
      refine k0 rfl _ ((p₁.mono (fun a m => .tail _ m) (by simp)).trans (p2.mono (fun a m => by obtain rfl := mem1 m; exact .head _) (by simp))) (L₁.step p2 (fun a m z => by obtain rfl := mem1 z; exact nI m)) ?_
      unfold CiAt
      exact ⟨by simpa using g, p2.ext _ _ (by simpa using nIb) (p₁.ext _ _ nb hb)⟩
end
section
variable {n : Nat} {c : Cx} {A : Around} {s : Shared} {E : Value → Shared → Prop} {q : Lx} {T : Int} {rs : List Nat} {ps : List (List Nat)} {x : Str}
/-- self._read_char, bound -/
theorem lexBound {p pos : Pos} {Q : Value → Shared → Prop} (i : Nat) {sl'} (ok : Ok c) (rm : Rm n A) (st : St c s) (L : LexAt c.w c.h₀ q T rs ps s.heap)
    (k : ∀ b s', s.heap.get? b = none → Pure s s' → s'.heap.get? b = some (methodObj (.ref 84) (.ref q.x)) → Q (.ref b) s')
    (hi : c.vs[i]? = some (x, sl') := by rfl) (hd : c.ds[i]? = some (some (.ref q.x)) := by rfl) (hx : (x == ("__debug__" : Str)) = false := by rfl) (hc : (x == ("__classdict__" : Str)) = false := by rfl)
    (he : eval (.Attribute (.Name x p) "_read_char" pos) c.env = (do
      let o ← eval (.Name x p) c.env
      standAt pos.atName
      let r ← holding [o] (getAttr o "_read_char" true)
      letTemporaryGo (.Name x p) o r
      pure r) := by rfl) : wpAny c.M A (eval (.Attribute (.Name x p) "_read_char" pos) c.env) Q E s := by
  refine Attribute_Name_ (Ev.name (n := n) i hi hd hx hc ok A s _ _ rm st fun u s₁ p₁ r₁ => ?_) he
  rw [r₁.ref_inv]
  have st₁ := st.pure p₁
  obtain ⟨ox, h1, h2, h3, h4, t1, t2, t3, t4, t5, t6, m, I, _, _⟩ := (L.pure p₁).instAt
  have X := ok.base.K.keeps st₁.old
  have hg : plainGet (KF c.w) 101 (Str.ofString "_read_char") = true := by rfl
  refine get_bind (C := 101) (K := KF c.w) (g := .builtin "function.__get__") (a := .ref 84) X I (plainGet_of hg).1 (findObj_fn (by rfl) (by rfl) (by rfl) (by rfl) (by rfl) (by rfl)) (plainGet_of hg).2
    (wpAny_call (fn_get (s := { s₁ with toks := s₁.toks + 1 }) X (by rfl) (handed_on rfl ?_)))
  have pp : Pure s₁ { s₁ with heap := s₁.heap.push (methodObj (.ref 84) (.ref q.x)), toks := s₁.toks + 1 } := .push
  exact k s₁.heap.objs.size _ (none_of_ext p₁ (get_size _)) (p₁.trans pp) (Heap.get?_push_size _ rfl)
end
end Mine
end
section
open PySem PySem.W PyProof.Rows
set_option Elab.async false
set_option linter.unusedVariables false
set_option maxRecDepth 100000
set_option pp.deepTerms false
set_option pp.deepTerms.threshold 4
namespace Mine
/-- a test that looks at the lexer -/
noncomputable def TvL (n : Nat) (c : Cx) (q : Lx) (t : Expr) (b : Bool) : Prop :=
  Ok c → ∀ (T : Int) (rs : List Nat) (ps : List (List Nat)) (A : Around) (s : Shared) (Q : Bool → Shared → Prop) (E : Value → Shared → Prop), Rm n A → St c s → LexAt c.w c.h₀ q T rs ps s.heap →
    (∀ s', Pure s s' → Q b s') → wpAny c.M A (isTrue t c.env (eval t c.env)) Q E s
theorem Tv.L {n c q t b} (h : Tv n c t b) : TvL n c q t b := fun ok T rs ps A s Q E rm st L k => h ok A s Q E rm st k
section
variable {n : Nat} {c : Cx} {A : Around} {s : Shared} {E : Value → Shared → Prop} {q : Lx} {T : Int} {rs : List Nat} {ps : List (List Nat)} {x : Str} {w' : World} {env' : Env} {rest : List Stmt} {pos : Pos} {Q : Flow → Shared → Prop}
theorem sIfL {t : Expr} {b : Bool} {body orelse : List Stmt} (ok : Ok c) (rm : Rm n A) (st : St c s) (L : LexAt c.w c.h₀ q T rs ps s.heap) (ht : TvL n c q t b)
    (k1 : b = true → ∀ s', Pure s s' → St c s' → wpAny (model prog w') A (execs body env') (fun f s' => match f with | .next => wpAny (model prog w') A (execs rest env') Q E s' | f => Q f s') E s')
    (k2 : b = false → ∀ s', Pure s s' → St c s' → wpAny (model prog w') A (execs orelse env') (fun f s' => match f with | .next => wpAny (model prog w') A (execs rest env') Q E s' | f => Q f s') E s') (he' : env' = c.env := by rfl) (hw' : w' = c.w := by rfl) :
    wpAny (model prog w') A (execs (.If t body orelse pos :: rest) env') Q E s := by
  subst he' hw'
  refine wpAny_execs_cons (wpAny_If (ht ok T rs ps A s _ _ rm st L fun s₁ p₁ => ?_))
  cases b with
  | true => exact k1 rfl s₁ p₁ (st.pure p₁)
  | false => exact k2 rfl s₁ p₁ (st.pure p₁)
theorem TvL.ws {l : Expr} {y : Nat} {p p2 p3 : Pos} (i : Nat) {sl'} (hl : Ev n c l (.str [y]))
    (hi : c.vs[i]? = some (x, sl') := by rfl) (hd : c.ds[i]? = some (some (.ref q.x)) := by rfl) (hx : (x == ("__debug__" : Str)) = false := by rfl) (hc : (x == ("__classdict__" : Str)) = false := by rfl)
    (he : eval (.Attribute (.Name x p) "whitespace" p2) c.env = (do
      let o ← eval (.Name x p) c.env
      standAt p2.atName
      let r ← holding [o] (getAttr o "whitespace" true)
      letTemporaryGo (.Name x p) o r
      pure r) := by rfl)
    (hm : behindInMarks .In (.Attribute (.Name x p) "whitespace" p2) = false := by with_unfolding_all rfl) : TvL n c q (.Compare l [.In] [.Attribute (.Name x p) "whitespace" p2] p3) (wsL.contains y) := by
  intro ok T rs ps A s Q E rm st L k
  refine wpAny_isTrue_Compare1 (hl ok A s _ _ rm st fun v₁ s₁ p₁ r₁ => ?_) hm
  have st₁ := st.pure p₁
  refine lexGet (n := n) (v := fun _ _ t6 => .str ⟨wsL.toArray⟩ t6) i ok rm st₁ (L.pure p₁) (fun _ t6 s₂ p₂ st₂ L₂ => ?_) (fun _ _ _ _ _ _ _ _ _ _ _ => by rfl) (fun _ _ _ => rfl) (fun _ => rfl) hi hd hx hc he
  refine op_inS (n := n) c.X A s₂ v₁ _ _ _ rm st₂.low (r₁.ext p₂.pure) (Rep.str' (l := wsL)) fun v s₃ p₃ r₃ => ?_
  rw [r₃.bool_inv]
  exact wpAny_truthy_bool (k s₃ ((p₁.trans p₂).trans p₃))
/-- a method of the lexer is called -/
theorem lexCall {name : Str} {es : List Expr} {ds : List D} {f : Addr} {p apos : Pos} {Q : Value → Shared → Prop} (i : Nat) {sl'} (ok : Ok c) (rm : Rm n A) (st : St c s) (L : LexAt c.w c.h₀ q T rs ps s.heap) (ha : Evs n c es ds)
    (k : ∀ vs s₂, Pure s s₂ → St c s₂ → LexAt c.w c.h₀ q T rs ps s₂.heap → RepL c.X s₂.heap ds vs → wpAny c.M A (call (.ref f) (.ref q.x :: vs)) Q E s₂)
    (hline : (apos.endLine == pos.line) = true := by rfl) (hf : ∀ w, findIn (KF w) (.ref 101) name = some (some (.ref f)) := by intro _; rfl) (ht : ∀ w, typeIn (KF w) (.ref f) = some (.type "function") := by intro _; rfl) (kp : ∀ w, keepIn (KF w) (.ref f) = true := by intro _; rfl)
    (hsh : ∀ i h1 h2 h3 h4 t1 t2 t3 t4 t5 t6 m, shadowIn (some (dictOf (lxEs q i h1 h2 h3 h4 t1 t2 t3 t4 t5 t6) m)) name = some false := by intros; rfl)
    (hi : c.vs[i]? = some (x, sl') := by rfl) (hd : c.ds[i]? = some (some (.ref q.x)) := by rfl) (hx : (x == ("__debug__" : Str)) = false := by rfl) (hc : (x == ("__classdict__" : Str)) = false := by rfl)
    (hb : attributeBase (.Name x p) name c.env (eval (.Name x p) c.env) = eval (.Name x p) c.env := by rfl) (hfew : methodCallForm (es.length + 0) (backTo pos (starEach es c.env)) [] = true := by rfl) (hp : (starEach es c.env).any (·.1) = false := by rfl) :
    wpAny c.M A (eval (.Call (.Attribute (.Name x p) name apos) es [] pos) c.env) Q E s := by
  refine callMeth (C := 101) ok rm hb hfew hline kp ha (Ev.name (n := n) i hi hd hx hc ok A s _ _ rm st fun v s₁ p₁ r₁ => ?_) (fun w => by show plainGet (KF w) 101 name = true; exact (by rfl : plainGet (KF w) 101 "lineno" = true)) hf ht hp
  have st₁ := st.pure p₁
  have L₁ := L.pure p₁
  obtain ⟨ox, h1, h2, h3, h4, t1, t2, t3, t4, t5, t6, m, I, _, _⟩ := L₁.instAt
  exact ⟨st₁, q.x, r₁.ref_inv, ox, _, I, hsh .., fun vs s₂ p₂ r₂ => k vs s₂ (p₁.trans p₂) (st₁.pure p₂) (L₁.pure p₂) r₂⟩
theorem letOwned_name {prog : Program} {w : World} {x : Str} {p : Pos} {it v : Value} {Q : Unit → Shared → Prop} (h : Q () s) : wpAny (model prog w) A (letOwnedTupleGo (.Name x p) it v) Q E s := by
  unfold letOwnedTupleGo
  exact wpAny_pure h
/-- for x in an iterator of one's own -/
theorem sForC {I : Addr} {iter : Expr} {p : Pos} {body : List Stmt} (J : Nat → Shared → Prop) (N : Nat) (ok : Ok c) (rm : Rm n A) (st : St c s) (hit : Ev n c iter (.ref I))
    (hself : ∀ s₁ (Q : Value → Shared → Prop) E, Pure s s₁ → Q (.ref I) s₁ → wpAny (model prog w') A (pyIter (.ref I)) Q E s₁) (hJ : ∀ s₁, Pure s s₁ → J N s₁)
    (turn : ∀ m s₁ E', J m s₁ → wpAny (model prog w') A (pyNext (.ref I)) (fun r s₁ => match r with
      | none => wpAny (model prog w') A (execs rest env') Q E s₁
      | some v => ∀ E'', wpAny (model prog w') A (assign (.Name x p) env' v) (fun _ s₂ => wpAny (model prog w') A (execs body env') (fun f s₃ => match f with
          | .next | .cont => ∃ m', m' < m ∧ J m' s₃
          | .brk => wpAny (model prog w') A (execs rest env') Q E s₃
          | .ret v => Q (.ret v) s₃) E'' s₂) E'' s₁) E' s₁)
    (hs : ∀ x, foldedSetIterable iter c.env x = pure x := by intro _; rfl) (he' : env' = c.env := by rfl) (hw' : w' = c.w := by rfl) :
    wpAny (model prog w') A (execs (.For (.Name x p) iter body [] pos :: rest) env') Q E s := by
  subst he' hw'
  refine wpAny_execs_cons (wpAny_For (hit ok A s _ _ rm st fun v s₁ p₁ r₁ => ?_) hs)
  rw [r₁.ref_inv]
  refine hself s₁ _ _ p₁ (codeAny_forLoop_any J ?_ N (hJ s₁ p₁))
  intro m s₂ hJm
  refine wpAny_mono (turn m s₂ _ hJm) (fun r s₁ h => ?_) fun _ _ h => h
  cases r with
  | none => exact wpAny_execs_nil h
  | some v =>
    refine letOwned_name (wpAny_mono (h _) (fun _ s₂ h => wpAny_mono h (fun f s₃ h => ?_) fun _ _ h => h) fun _ _ h => h)
    cases f <;> exact h
end
/-- the signs up to a stop, a backslash taken off -/
noncomputable def inT (stop : Nat → Bool) : List Nat → List Nat → List Nat × List Nat
  | tok, [] => (tok, [])
  | tok, [c] => if stop c then (tok, []) else if c = 92 then (tok, []) else (tok ++ [c], [])
  | tok, c :: c' :: r => if stop c then (tok, c' :: r) else if c = 92 then inT stop (tok ++ [c']) r else inT stop (tok ++ [c]) (c' :: r)
end Mine
end
section
open PySem PySem.W PyProof.Rows
set_option Elab.async false
set_option linter.unusedVariables false
set_option maxRecDepth 100000
set_option pp.deepTerms false
set_option pp.deepTerms.threshold 4
namespace Mine
theorem inT_stop {stop : Nat → Bool} {tok r : List Nat} {c : Nat} (h : stop c = true) : inT stop tok (c :: r) = (tok, r) := by
  cases r <;> simp [inT, h]
theorem inT_bs {stop : Nat → Bool} {tok r : List Nat} (h : stop 92 = false) : inT stop tok (92 :: r) = inT stop (tok ++ r.take 1) r.tail := by
  cases r <;> simp [inT, h]
theorem inT_go {stop : Nat → Bool} {tok r : List Nat} {c : Nat} (h : stop c = false) (hc : c ≠ 92) : inT stop tok (c :: r) = inT stop (tok ++ [c]) r := by
  cases r <;> simp [inT, h, hc]
noncomputable def fdOf (w : World) (a : Addr) : FuncData := match (KF w).lookup a with
  | some ⟨_, _, .func fd, _⟩ => fd
  | _ => default
/-- the context of get_token's frame, with the walk's object -/
noncomputable abbrev gtC (w : World) (h₀ : Heap) (q : Lx) (La I : Addr) (ds : List (Option D)) : Cx := (fnCx w h₀ q.all (fdOf w 91) 91 La ds).plus I
noncomputable abbrev gtD (q : Lx) (I : Addr) (tok : List Nat) (ch : Option D) : List (Option D) := [some (.ref q.x), some (.str tok), some (.ref I), ch]
section
variable {w : World} {h₀ : Heap} {q : Lx} {T : Int} {ps : List (List Nat)}
/-- what stands in get_token between two signs -/
structure GtS (w : World) (h₀ : Heap) (q : Lx) (T : Int) (ps : List (List Nat)) (La I b : Addr) (s₀ : Shared) (tok rs : List Nat) (e : Bool) (s : Shared) : Prop where
  st : St (gtC w h₀ q La I (gtD q I tok none)) s
  L : LexAt w h₀ q T rs ps s.heap
  C : CiAt q I b e s.heap
  he : e = true → rs = []
  len : tok.length + rs.length ≤ 1000
  p : Step (La :: I :: q.all) [] s₀ s

set_option maxHeartbeats 1000000 in
theorem gtInner (B : Base w h₀) {n : Nat} (hn : 4 ≤ n) {stop : Nat → Bool} {t : Expr} {La I b : Addr} {p1 p2 p3 p4 p5 p6 p7 p8 p9 p10 p11 p12 p13 p14 p15 p16 p17 p18 : Pos} {k1 : Nat} {rest : List Stmt}
    (okc : ∀ ds, Ok (gtC w h₀ q La I ds)) (ht : ∀ tok y, TvL (n + 2) (gtC w h₀ q La I (gtD q I tok (some (.str [y])))) q t (stop y)) (nI : I ∉ q.all) (nb : b ∉ q.all) (nIb : b ≠ I) (nLI : La ≠ I) (nLb : La ≠ b) (nL : La ∉ q.all)
    {A : Around} {s₀ : Shared} {Q : Flow → Shared → Prop} {E : Value → Shared → Prop} (rm : Rm (n + 3) A) {tok₀ rs₀ : List Nat} {e₀ : Bool} (G : GtS w h₀ q T ps La I b s₀ tok₀ rs₀ e₀ s₀) (hline : (p10.endLine == p11.line) = true)
    (kret : ∀ v s', Step (La :: I :: q.all) [] s₀ s' → LexAt w h₀ q T (inT stop tok₀ rs₀).2 ps s'.heap → (∃ t, v = .str ⟨(inT stop tok₀ rs₀).1.toArray⟩ t) → Q (.ret v) s')
    (knext : ∀ s', GtS w h₀ q T ps La I b s₀ (inT stop tok₀ rs₀).1 [] true s' → (inT stop tok₀ rs₀).2 = [] → wpAny (model prog w) A (execs rest (gtC w h₀ q La I []).env) Q E s') :
    wpAny (model prog w) A (execs (.For (.Name "ch" p1) (.Name "fiter" p2) [.If t [.Return (some (.Name "token" p3)) p4] [.If (.Compare (.Name "ch" p5) [.Eq] [.Constant (.str "\\") k1 p6] p7) [.Assign [.Name "ch" p8] (.Call (.Attribute (.Name "self" p9) "_read_char" p10) [] [] p11) p12] [] p13] p14,
      .AugAssign (.Name "token" p15) .Add (.Name "ch" p16) p17] [] p18 :: rest) (gtC w h₀ q La I []).env) Q E s₀ := by
  have rm2 : Rm (n + 2) A := rm.less (by lia)
  refine sForC (c := gtC w h₀ q La I (gtD q I tok₀ none)) (fun m s => ∃ tok rs e, m = rs.length ∧ GtS w h₀ q T ps La I b s₀ tok rs e s ∧ inT stop tok rs = inT stop tok₀ rs₀) rs₀.length (okc _) rm2 G.st (Ev.name 2) (fun s₁ Q E p k => ?_) (fun s₁ p => ?_) ?_
  · obtain ⟨t, hi⟩ : ∃ a b e, s₁.heap.get? I = some (ciObj a b e) := by
      have C₁ := (G.C.step p (by simp) (by simp)).1
      cases e₀ with
      | true => exact ⟨_, _, _, by simpa using C₁⟩
      | false => obtain ⟨t, g⟩ : ∃ t, s₁.heap.get? I = some (ciObj (.ref b) (.str ⟨#[]⟩ t) false) := by simpa using C₁
                 exact ⟨_, _, _, g⟩
    obtain ⟨b', e', hi⟩ := hi
    exact ci_iter hi k
  · exact ⟨tok₀, rs₀, e₀, rfl, ⟨G.st.pure p, G.L.pure p, G.C.step p (by simp) (by simp), G.he, G.len, p.up⟩, rfl⟩
  · rintro m s E' ⟨tok, rs, e, rfl, ⟨st, L, C, he, hlen, hp⟩, hin⟩
    have sub : ∀ a ∈ I :: q.all, a ∈ (gtC w h₀ q La I (gtD q I tok none)).X := fun a m => by
      rcases memc m with rfl | m
      · exact .head _
      · exact .tail _ (List.mem_append_right _ m)
    have ownne : ∀ a ∈ (gtC w h₀ q La I (gtD q I tok none)).own, a ∉ I :: q.all := fun a m z => by
      have m' : a ∈ [La] := m
      obtain rfl := mem1 m'
      rcases List.mem_cons.mp z with e | z
      · exact nLI e
      · exact nL z
    have h0ne : ∀ a o, (gtC w h₀ q La I (gtD q I tok none)).h₀.get? a = some o → a ∉ I :: q.all := fun a o e z => by
      have := (okc []).new a (sub a z)
      have e' : h₀.get? a = some o := e
      rw [this] at e'; cases e'
    have lowI : ∀ {s' : Shared} {rs' e'}, LexAt w h₀ q T rs' ps s'.heap → CiAt q I b e' s'.heap → Low (I :: q.all) s'.heap := fun L' C' => by
      obtain ⟨o, g⟩ := C'.there
      exact Low.cons g L'.there
    refine ciStep B hn rm st.old L C (by lia) nI nb nIb he (fun hr s' p L' C' => ?_) (fun c r t hr s' p L' C' => ?_)
    · subst hr
      have st' := st.step p sub ownne h0ne (lowI L' C')
      refine knext s' ⟨?_, L', C', fun _ => rfl, ?_, hp.trans (p.mono (fun a m => .tail _ m) (by simp))⟩ ?_
      · rw [← hin]; exact st'
      · rw [← hin]; exact hlen
      · rw [← hin]; rfl
    · subst hr
      intro E''
      have st' := st.step p sub ownne h0ne (lowI L' C')
      have hp' := hp.trans (p.mono (fun a m => .tail _ m) (by simp))
      rw [List.length_cons] at hlen
      have wrL : ∀ a ∈ (gtC w h₀ q La I (gtD q I tok none)).wr, a = La := fun a m => by
        have m' : a ∈ [La] := Cx.wr_own m
        rwa [List.mem_singleton] at m'
      have allne : ∀ (ds) , ∀ a ∈ q.all, a ∉ (gtC w h₀ q La I ds).wr := fun ds a m z => by
        have := wrL a z
        subst this; exact nL m
      have stp : ∀ {ds s₁ s₂}, Step (gtC w h₀ q La I ds).wr [] s₁ s₂ → Step (La :: I :: q.all) [] s₁ s₂ := fun p => p.mono (fun a m => by rw [wrL a m]; exact .head _) (by simp)
      refine Asg.name (n := n + 2) (c := gtC w h₀ q La I (gtD q I tok none)) (d := .str [c]) 3 rfl (.inl rfl) (fun _ h => nomatch h) (okc _) A s' _ _ E'' rm2 st' Rep.str' fun s₁ p₁ st₁ => ?_
      have L₁ := L'.step p₁ (allne _)
      have C₁ := C'.step p₁ (fun z => nLI (wrL _ z).symm) (fun z => nLb (wrL _ z).symm)
      have hp₁ := hp'.trans (stp p₁)
      have stt : St (gtC w h₀ q La I (gtD q I tok (some (.str [c])))) s₁ := st₁
      refine sIfL (c := gtC w h₀ q La I (gtD q I tok (some (.str [c])))) (okc _) rm2 stt L₁ (ht tok c) (fun hb s₂ p₂ st₂ => ?_) (fun hb s₂ p₂ st₂ => ?_)
      · refine sReturn (okc _) rm2 st₂ (Ev.name 1) fun v s₃ p₃ r₃ => ?_
        rw [inT_stop hb] at hin
        refine kret v s₃ (hp₁.trans (p₂.trans p₃).up) ?_ ?_
        · rw [← hin]; exact (L₁.pure p₂).pure p₃
        · rw [← hin]; exact r₃.str_inv
      · have L₂ := L₁.pure p₂
        have C₂ := C₁.step p₂ (by simp) (by simp)
        have hp₂ := hp₁.trans p₂.up
        -- the rest of the turn: token += ch
        have last : ∀ (ys r' : List Nat) s₃, St (gtC w h₀ q La I (gtD q I tok (some (.str ys)))) s₃ → LexAt w h₀ q T r' ps s₃.heap → CiAt q I b false s₃.heap → Step (La :: I :: q.all) [] s₀ s₃ → ys.length ≤ 1 → r'.length ≤ r.length → inT stop (tok ++ ys) r' = inT stop tok₀ rs₀ →
            wpAny (model prog w) A (execs [.AugAssign (.Name "token" p15) .Add (.Name "ch" p16) p17] (gtC w h₀ q La I []).env) (fun f s₃ => match f with
              | .next | .cont => ∃ m', m' < (c :: r).length ∧ ∃ tok rs e, m' = rs.length ∧ GtS w h₀ q T ps La I b s₀ tok rs e s₃ ∧ inT stop tok rs = inT stop tok₀ rs₀
              | .brk => wpAny (model prog w) A (execs rest (gtC w h₀ q La I []).env) Q E s₃
              | .ret v => Q (.ret v) s₃) E'' s₃ := fun ys r' s₃ st₃ L₃ C₃ hp₃ hy hr' hin' => by
          refine sAug (d := .str (tok ++ ys)) 1 (okc _) rm2 st₃ (Ev.name 3) (op_iadds (by have : (1000 : Nat) + 1 ≤ sizeLine := by decide
                                                                                          lia)) fun s₄ p₄ st₄ => sNil ?_
          have st₄' : St (gtC w h₀ q La I (gtD q I (tok ++ ys) (some (.str ys)))) s₄ := st₄
          refine ⟨r'.length, by rw [List.length_cons]; lia, tok ++ ys, r', false, rfl, ⟨St.fit (c := gtC w h₀ q La I []) st₄' ⟨rfl, rfl, rfl, trivial⟩, L₃.step p₄ (allne _), C₃.step p₄ (fun z => nLI (wrL _ z).symm) (fun z => nLb (wrL _ z).symm), fun h => (nomatch h), ?_, hp₃.trans (stp p₄)⟩, hin'⟩
          rw [List.length_append]; lia
        refine sIf (c := gtC w h₀ q La I (gtD q I tok (some (.str [c])))) (okc _) rm2 st₂ (Tv.cmp (Ev.name 3) Ev.kStr op_eqs) (fun hb₂ s₃ p₃ st₃ => ?_) (fun hb₂ s₃ p₃ st₃ => ?_)
        · have hc : c = 92 := by
            have h2 : ([c] : List Nat) = [92] := eq_of_beq hb₂
            simpa using h2
          subst hc
          rw [inT_bs hb] at hin
          have L₃ := L₂.pure p₃
          refine wpAny_execs_cons (wpAny_Assign_Name (lexCall (c := gtC w h₀ q La I (gtD q I tok (some (.str [92])))) 0 (okc _) rm2 st₃ L₃ .nil (fun vs s₄ p₄ st₄ L₄ r₄ => ?_) hline) (by rfl))
          rw [RepL.nil_iff] at r₄; subst r₄
          refine wpAny_call (readChar B hn (by lia) A s₄ _ _ rm2 st₄.old L₄ fun v s₅ p₅ L₅ hv => ?_)
          obtain ⟨t', rfl⟩ := hv
          have st₅ := st₄.step p₅ (fun a m => sub a (.tail _ m)) (fun a m z => ownne a m (.tail _ z)) (fun a o e z => h0ne a o e (.tail _ z)) L₅.there
          have C₄ := (C₂.step p₃ (by simp) (by simp)).step p₄ (by simp) (by simp)
          have C₅ := C₄.step p₅ nI nb
          refine store (c := gtC w h₀ q La I (gtD q I tok (some (.str [92])))) (d := .str (r.take 1)) 3 rfl (okc _) st₅ Rep.str' (.inl rfl) (fun _ h => nomatch h) fun s₆ p₆ st₆ => ?_
          refine sNil (sNil (last (r.take 1) r.tail s₆ st₆ (L₅.step p₆ (allne _)) (C₅.step p₆ (fun z => nLI (wrL _ z).symm) (fun z => nLb (wrL _ z).symm)) ?_ ?_ ?_ hin))
          · exact ((hp₂.trans (p₃.trans p₄).up).trans (p₅.mono (fun a m => .tail _ (.tail _ m)) (by simp))).trans (stp p₆)
          · rw [List.length_take]; lia
          · rw [List.length_tail]; lia
        · have hc : c ≠ 92 := fun e => by
            subst e
            exact absurd (show (([92] : List Nat) == [92]) = false from hb₂) (by decide)
          rw [inT_go hb hc] at hin
          refine sNil (sNil (last [c] r s₃ st₃ (L₂.pure p₃) (C₂.step p₃ (by simp) (by simp)) (hp₂.trans p₃.up) (by simp) (Nat.le_refl _) hin))
end
end Mine
end
section
open PySem PySem.W PyProof.Rows
set_option Elab.async false
set_option linter.unusedVariables false
set_option maxRecDepth 100000
set_option pp.deepTerms false
set_option pp.deepTerms.threshold 4
namespace Mine
noncomputable def startT : List Nat → List Nat × List Nat
  | [] => ([], [])
  | c :: r => if wsL.contains c then startT r else if c = 34 then inT (· == 34) [] r else if c = 92 then inT wsL.contains (r.take 1) r.tail else inT wsL.contains [c] r
noncomputable def nextT (rs : List Nat) (ps : List (List Nat)) : List Nat × List Nat × List (List Nat) := match ps with
  | u :: r => (u, rs, r)
  | [] => ((startT rs).1, (startT rs).2, [])
section
variable {w : World} {h₀ : Heap} {q : Lx} {T : Int} {rs : List Nat} {ps : List (List Nat)}
set_option maxHeartbeats 4000000 in
/-- get_token -/
theorem getToken (B : Base w h₀) {n : Nat} (hn : 4 ≤ n) (hlen : rs.length ≤ 900) (hpl : ps.length ≤ 1000) :
    ∀ (A : Around) (s : Shared) (Q : Value → Shared → Prop) (E : Value → Shared → Prop), Rm (n + 4) A → Ext h₀ s.heap → LexAt w h₀ q T rs ps s.heap →
      (∀ v s', Step q.all [] s s' → LexAt w h₀ q T (nextT rs ps).2.1 (nextT rs ps).2.2 s'.heap → (∃ t, v = .str ⟨(nextT rs ps).1.toArray⟩ t) → Q v s') → codeAny (model prog w) A (.call (.ref 91) ⟨[.ref q.x], []⟩) (fun r s' => match r with | .ok (.ret v) => Q v s' | .ok _ => False | .error e => E e s') s := by
  intro A s Q E rm old L k
  refine fn_enterYc (n := n + 3) q.all (o := _) (fd := fdOf w 91) (body := _) (params := [Str.ofString "self"]) (args := [.ref q.x]) (d := .str (nextT rs ps).1) q.all (fun s => LexAt w h₀ q T rs ps s.heap) (fun s => LexAt w h₀ q T (nextT rs ps).2.1 (nextT rs ps).2.2 s.heap) (fun s s' h p => h.pure p) B rfl rfl rfl rfl rfl rfl rfl (fun vals h => ?_) (nodup_of rfl) (by decide) rfl (by intro x hx; obtain rfl := mem1 hx; exact .inl rfl) rfl rfl rfl rfl ?_
    A s [.ref q.x] Q E rm old L.there L.new (.cons Rep.ref' .nil) L (fun _ h => h) (fun v s' p L' r => k v s' p L' (r.str_inv))
  · exact bindv1 h fun a => rfl
  · intro A s La Q E ok rm st L hY hO k1 k2
    have nL : La ∉ q.all := hO La (.head _)
    refine wpAny_execs_cons (wpAny_If (wpAny_isTrue_value (lexGet (n := n + 3) (v := fun _ _ _ => .ref q.pb) 0 ok rm st L (fun _ _ s₁ p₁ st₁ L₁ => ?_) (fun _ _ _ _ _ _ _ _ _ _ _ => by rfl)) (by rfl)))
    have rp : Rep [] s₁.heap (.lst (ps.map .str)) (.ref q.pb) := by
      obtain ⟨vs, pl, r⟩ := L₁.push
      exact Rep.lst' (by simp) pl r
    refine tr_lst (n := n + 3) (by rw [List.length_map]; lia) [] A s₁ _ _ _ rm Low.nil rp fun s₂ p₂ => ?_
    have st₂ := st₁.pure p₂
    have L₂ := L₁.pure p₂
    cases ps with
    | cons u r =>
      rw [show (!((u :: r).map D.str).isEmpty) = true from rfl, if_pos rfl]
      refine wpAny_execs_cons (wpAny_Return_some (wpAny_Call_method (by rfl) (by rfl) (by rfl) PySem.F.plainAttrs_list PySem.F.slot_list_pop PySem.F.type_list_pop (lexGet (n := n + 3) (v := fun _ _ _ => .ref q.pb) 0 ok rm st₂ L₂ (fun _ _ s₃ p₃ st₃ L₃ => ?_) (fun _ _ _ _ _ _ _ _ _ _ _ => by rfl))))
      refine ⟨let ⟨vs, pl, _⟩ := L₃.push; pl.isList.typeIs, fun b e => ?_, ?_⟩
      · cases e; obtain ⟨vs, ⟨m, g⟩, _⟩ := L₃.push; exact ⟨_, g, rfl⟩
      refine callW (n := n + 3) ok Kp.builtin (Evs.cons Ev.kInt .nil) rm st₃ (fun us s₄ p₄ r₄ => ?_) rfl
      rw [RepL.cons_iff] at r₄; obtain ⟨y, r', rfl, au, bu⟩ := r₄
      rw [RepL.nil_iff] at bu; subst bu
      obtain ⟨tt, rfl⟩ := au.int_inv
      have L₄ := L₃.pure p₄
      refine pop0 (X := q.all) (d := .str u) (ds := r.map D.str) L₄.push.at (by simp) ?_ fun v s₅ p₅ L₅ r₅ => ?_
      · rw [List.length_map]
        rw [List.length_cons] at hpl
        exact Nat.lt_of_lt_of_le (show r.length < 1000 by lia) (by decide)
      · obtain ⟨t', rfl⟩ := r₅.str_inv
        exact k1 _ s₅ ((((p₁.trans p₂).trans p₃).trans p₄).up.trans ((Lx.all1 (q := q) p₅ (by simp)))) (L₄.pushed p₅ (LstS.of L₅)) Rep.str'
    | nil =>
      rw [show (!(([] : List (List Nat)).map D.str).isEmpty) = false from rfl, if_neg (by decide)]
      refine sNil ?_
      have p12 := p₁.trans p₂
      refine sAssign (ds' := [some (.ref q.x), some (.str []), none, none]) 1 ok rm st₂ Ev.kStr fun s₃ p₃ st₃ => ?_
      have L₃ := L₂.step p₃ (fun a m z => hO a (Cx.wr_own z) m)
      refine wpAny_execs_cons (wpAny_Assign_Name (wpAny_Call_ofName (builtinName (c := fnCx w h₀ q.all (fdOf w 91) 91 La [some (.ref q.x), some (.str []), none, none]) (ok.wd _) st₃ boot_iter ?_ rfl (fun _ => rfl) (by decide) rfl)) (by rfl))
      refine callP (c := fnCx w h₀ q.all (fdOf w 91) 91 La [some (.ref q.x), some (.str []), none, none]) (P := fun _ => True) (fun h _ => ⟨.machine, .inr (.inl rfl), Looks.of_pure rfl⟩) ?_ rfl
      refine Calls.spliced_cons (lexBound (n := n + 3) 0 (ok.wd _) rm st₃ L₃ fun b s₄ fb p₄ hb => ?_)
      have st₄ := st₃.pure p₄
      have L₄ := L₃.pure p₄
      refine Evs.cons (n := n + 3) Ev.kStr .nil rfl (ok.wd _) A s₄ _ _ E rm st₄ fun vs s₅ p₅ r₅ => ⟨trivial, ?_⟩
      have st₅ := st₄.pure p₅
      have L₅ := L₄.pure p₅
      have hb₅ := p₅.pure _ _ hb
      rw [RepL.cons_iff] at r₅; obtain ⟨y, r', rfl, au, bu⟩ := r₅
      rw [RepL.nil_iff] at bu; subst bu
      obtain ⟨tt, rfl⟩ := au.str_inv
      refine iterNew hb₅ fun tk => ?_
      have fr := get_size s₅.heap
      have pp : Pure s₅ { s₅ with heap := s₅.heap.push (ciObj (.ref b) (.str ⟨#[]⟩ tt) false), toks := tk } := .push
      have fr0 : h₀.get? s₅.heap.objs.size = none := by
        cases e : h₀.get? s₅.heap.objs.size with
        | none => rfl
        | some o => have := st₅.old _ _ e; rw [fr] at this; cases this
      have okI : ∀ ds, Ok (gtC w h₀ q La s₅.heap.objs.size ds) := fun ds => (ok.wd ds).plus fr0
      have st₆ := St.plus (c := fnCx w h₀ q.all (fdOf w 91) 91 La [some (.ref q.x), some (.str []), none, none]) st₅ pp fr ⟨_, Heap.get?_push_size _ rfl⟩
      have gI : (s₅.heap.push (ciObj (.ref b) (.str ⟨#[]⟩ tt) false)).get? s₅.heap.objs.size = some (ciObj (.ref b) (.str ⟨#[]⟩ tt) false) := Heap.get?_push_size _ rfl
      have nI : s₅.heap.objs.size ∉ q.all := fun m => by obtain ⟨o, g⟩ := L₅.there _ m; rw [fr] at g; cases g
      have nb : b ∉ q.all := fun m => by obtain ⟨o, g⟩ := L₃.there _ m; rw [fb] at g; cases g
      have nIb : b ≠ s₅.heap.objs.size := fun e => by rw [e, fr] at hb₅; cases hb₅
      have nLI : La ≠ s₅.heap.objs.size := fun e => by obtain ⟨o, g⟩ := st₅.low La (.head _); rw [e, fr] at g; cases g
      have nLb : La ≠ b := fun e => by obtain ⟨o, g⟩ := st₃.low La (.head _); rw [e, fb] at g; cases g
      have L₆ := L₅.pure pp
      have C₆ : CiAt q s₅.heap.objs.size b false (s₅.heap.push (ciObj (.ref b) (.str ⟨#[]⟩ tt) false)) := by
        unfold CiAt
        exact ⟨⟨tt, gI⟩, pp.pure _ _ hb₅⟩
      revert nI nb nIb nLI nLb gI okI L₆ C₆ st₆ fr0 fr pp
      generalize s₅.heap.objs.size = I
      intro fr pp fr0 okI st₆ gI nI nb nIb nLI nLb L₆ C₆
      have wrL : ∀ {ds}, ∀ a ∈ (gtC w h₀ q La I ds).wr, a = La := fun {ds} a m => by
        have m' : a ∈ [La] := Cx.wr_own m
        rwa [List.mem_singleton] at m'
      have allne : ∀ {ds}, ∀ a ∈ q.all, a ∉ (gtC w h₀ q La I ds).wr := fun {ds} a m z => by
        have := wrL a z
        subst this; exact nL m
      have stp : ∀ {ds s₁ s₂}, Step (gtC w h₀ q La I ds).wr [] s₁ s₂ → Step (La :: I :: q.all) [] s₁ s₂ := fun p => p.mono (fun a m => by rw [wrL a m]; exact .head _) (by simp)
      refine store (c := gtC w h₀ q La I [some (.ref q.x), some (.str []), none, none]) (d := .ref I) 2 rfl (okI _) st₆ Rep.ref' (.inl rfl) (fun _ h => nomatch h) fun s₇ p₇ st₇ => ?_
      have st₇' : St (gtC w h₀ q La I (gtD q I [] none)) s₇ := st₇
      have L₇ := L₆.step p₇ allne
      have C₇ := C₆.step p₇ (fun z => nLI (wrL _ z).symm) (fun z => nLb (wrL _ z).symm)
      have p07 := ((((p12.up.trans p₃).trans p₄.up).trans p₅.up).trans pp.up).trans p₇
      have p17 : Step ((fnCx w h₀ q.all (fdOf w 91) 91 La [some (.ref q.x), none, none, none]).wr ++ q.all) [] s s₇ := p07.mono (fun a m => List.mem_append_left _ m) (by simp)
      have fI : s.heap.get? I = none := by
        cases e : s.heap.get? I with
        | none => rfl
        | some o =>
          have h1 : s₃.heap.get? I = some o := p₃.ext _ _ (fun z => nLI (wrL (ds := []) _ z).symm) (p12.pure _ _ e)
          rw [(p₄.trans p₅).pure _ _ h1] at fr; cases fr
      have fin : ∀ s', Step (La :: I :: q.all) [] s₇ s' → Step ((fnCx w h₀ q.all (fdOf w 91) 91 La [some (.ref q.x), none, none, none]).wr ++ q.all) [] s s' := fun s' p =>
        Step.unseen' (W := [I]) (gs := []) p17 (p.mono (fun a m => by
          rcases memc m with rfl | m
          · exact List.mem_append_right _ (List.mem_append_left _ Cx.locals_wr)
          · rcases memc m with rfl | m
            · exact List.mem_append_left _ (.head _)
            · exact List.mem_append_right _ (List.mem_append_right _ m)) (by simp)) (fun a m => by obtain rfl := mem1 m; exact fI) (by simp)
      clear p17 p07
      refine sForC (c := gtC w h₀ q La I (gtD q I [] none)) (fun m s => ∃ tok rs' e, m = rs'.length ∧ GtS w h₀ q T [] La I b s₇ tok rs' e s ∧ ((tok = [] ∧ startT rs' = startT rs) ∨ (rs' = [] ∧ startT rs = (tok, [])))) rs.length (okI _) rm st₇' (Ev.name 2) (fun s₁ Q E p k => ?_) (fun s₁ p => ?_) ?_
      · obtain ⟨t, hi⟩ : ∃ t, s₁.heap.get? I = some (ciObj (.ref b) (.str ⟨#[]⟩ t) false) := by simpa using (C₇.step p (by simp) (by simp)).1
        exact ci_iter hi k
      · exact ⟨[], rs, false, rfl, ⟨st₇'.pure p, L₇.pure p, C₇.step p (by simp) (by simp), fun h => (nomatch h), by rw [List.length_nil]; lia, p.up⟩, .inl ⟨rfl, rfl⟩⟩
      · rintro m s₈ E' ⟨tok, rs', e, rfl, ⟨st₈, L₈, C₈, he, hlen₈, hp₈⟩, hin⟩
        have sub : ∀ a ∈ I :: q.all, a ∈ (gtC w h₀ q La I (gtD q I tok none)).X := fun a m => by
          rcases memc m with rfl | m
          · exact .head _
          · exact .tail _ (List.mem_append_right _ m)
        have ownne : ∀ a ∈ (gtC w h₀ q La I (gtD q I tok none)).own, a ∉ I :: q.all := fun a m z => by
          have m' : a ∈ [La] := m
          obtain rfl := mem1 m'
          rcases List.mem_cons.mp z with e | z
          · exact nLI e
          · exact nL z
        have h0ne : ∀ a o, (gtC w h₀ q La I (gtD q I tok none)).h₀.get? a = some o → a ∉ I :: q.all := fun a o e z => by
          have := (okI []).new a (sub a z)
          have e' : h₀.get? a = some o := e
          rw [this] at e'; cases e'
        have lowI : ∀ {s' : Shared} {rs' e'}, LexAt w h₀ q T rs' [] s'.heap → CiAt q I b e' s'.heap → Low (I :: q.all) s'.heap := fun L' C' => by
          obtain ⟨o, g⟩ := C'.there
          exact Low.cons g L'.there
        have done : ∀ tok' s', GtS w h₀ q T [] La I b s₇ tok' [] true s' → startT rs = (tok', []) → wpAny (model prog w) A (execs [.Return (some (.Name "token" ⟨99, 15, 99, 20⟩)) ⟨99, 8, 99, 20⟩] (gtC w h₀ q La I []).env) Q E s' := fun tok' s' G h => by
          refine sReturn (c := gtC w h₀ q La I (gtD q I tok' none)) (okI _) rm G.st (Ev.name 1) fun v s'' p'' r'' => ?_
          have hn1 : (nextT rs []).1 = tok' := by show (startT rs).1 = tok'; rw [h]
          have hn2 : (nextT rs []).2.1 = [] := by show (startT rs).2 = []; rw [h]
          refine k1 v s'' (fin _ (G.p.trans p''.up)) ?_ ?_
          · rw [hn2]; exact G.L.pure p''
          · rw [hn1]; obtain ⟨t, rfl⟩ := r''.str_inv; exact Rep.str'
        refine ciStep B hn (rm.less (by lia)) st₈.old L₈ C₈ (by lia) nI nb nIb he (fun hr s' p L' C' => ?_) (fun ch r t hr s' p L' C' => ?_)
        · subst hr
          have st' := st₈.step p sub ownne h0ne (lowI L' C')
          refine done tok s' ⟨st', L', C', fun _ => rfl, hlen₈, hp₈.trans (p.mono (fun a m => .tail _ m) (by simp))⟩ ?_
          rcases hin with ⟨rfl, hin⟩ | ⟨_, hin⟩
          · rw [← hin]; rfl
          · exact hin
        · subst hr
          intro E''
          obtain ⟨e1, e2⟩ : tok = [] ∧ startT (ch :: r) = startT rs := hin.elim id (fun h => nomatch h.1)
          clear hin
          subst e1
          have hin := e2
          clear e2
          have st' := st₈.step p sub ownne h0ne (lowI L' C')
          have hp' := hp₈.trans (p.mono (fun a m => .tail _ m) (by simp))
          rw [List.length_cons, List.length_nil] at hlen₈
          refine Asg.name (n := n + 3) (c := gtC w h₀ q La I (gtD q I [] none)) (d := .str [ch]) 3 rfl (.inl rfl) (fun _ h => nomatch h) (okI _) A s' _ _ E'' rm st' Rep.str' fun s₁ p₁ st₁ => ?_
          have L₁ := L'.step p₁ allne
          have C₁ := C'.step p₁ (fun z => nLI (wrL _ z).symm) (fun z => nLb (wrL _ z).symm)
          have hp₁ := hp'.trans (stp p₁)
          have stt : St (gtC w h₀ q La I (gtD q I [] (some (.str [ch])))) s₁ := st₁
          have weak : ∀ {tok s}, St (gtC w h₀ q La I (gtD q I tok (some (.str [ch])))) s → St (gtC w h₀ q La I (gtD q I tok none)) s := fun h => St.fit (c := gtC w h₀ q La I []) h ⟨rfl, rfl, rfl, trivial⟩
          refine sIfL (c := gtC w h₀ q La I (gtD q I [] (some (.str [ch])))) (okI _) rm stt L₁ (TvL.ws 0 (Ev.name 3)) (fun hb s₂ p₂ st₂ => ?_) (fun hb s₂ p₂ st₂ => ?_)
          · refine wpAny_execs_cons (wpAny_Continue ?_)
            refine ⟨r.length, by rw [List.length_cons]; lia, [], r, false, rfl, ⟨weak st₂, L₁.pure p₂, C₁.step p₂ (by simp) (by simp), fun h => (nomatch h), by rw [List.length_nil]; lia, hp₁.trans p₂.up⟩, .inl ⟨rfl, ?_⟩⟩
            rw [← hin, startT, if_pos hb]
          · refine sNil ?_
            have L₂ := L₁.pure p₂
            have C₂ := C₁.step p₂ (by simp) (by simp)
            have hp₂ := hp₁.trans p₂.up
            rw [startT, if_neg (by rw [hb]; decide)] at hin
            -- after an inner loop that ran out
            have back : ∀ (stop : Nat → Bool) tok' rs' s₃ s₄, Step (La :: I :: q.all) [] s₇ s₃ → inT stop tok' rs' = startT rs → GtS w h₀ q T [] La I b s₃ (inT stop tok' rs').1 [] true s₄ → (inT stop tok' rs').2 = [] →
                ∃ m', m' < (ch :: r).length ∧ ∃ tok rs' e, m' = rs'.length ∧ GtS w h₀ q T [] La I b s₇ tok rs' e s₄ ∧ ((tok = [] ∧ startT rs' = startT rs) ∨ (rs' = [] ∧ startT rs = (tok, []))) := fun stop tok' rs' s₃ s₄ hp₃ he G h2 => by
              refine ⟨0, by rw [List.length_cons]; lia, (inT stop tok' rs').1, [], true, rfl, ⟨G.st, G.L, G.C, G.he, G.len, hp₃.trans G.p⟩, .inr ⟨rfl, ?_⟩⟩
              rw [← he, ← h2]
            have kret : ∀ (stop : Nat → Bool) tok' rs' s₃, Step (La :: I :: q.all) [] s₇ s₃ → inT stop tok' rs' = startT rs → ∀ v s₄, Step (La :: I :: q.all) [] s₃ s₄ → LexAt w h₀ q T (inT stop tok' rs').2 [] s₄.heap → (∃ t, v = .str ⟨(inT stop tok' rs').1.toArray⟩ t) → Q (.ret v) s₄ := fun stop tok' rs' s₃ hp₃ he v s₄ p₄ L₄ hv => by
              refine k1 v s₄ (fin _ (hp₃.trans p₄)) ?_ ?_
              · show LexAt w h₀ q T (startT rs).2 [] s₄.heap
                rw [← he]; exact L₄
              · show Rep _ _ (.str (startT rs).1) v
                rw [← he]; obtain ⟨t, rfl⟩ := hv; exact Rep.str'
            refine sIf (c := gtC w h₀ q La I (gtD q I [] (some (.str [ch])))) (okI _) rm st₂ (Tv.cmp (Ev.name 3) Ev.kStr op_eqs) (fun hb₂ s₃ p₃ st₃ => ?_) (fun hb₂ s₃ p₃ st₃ => ?_)
            · have hc : ch = 34 := by
                have h2 : ([ch] : List Nat) = [34] := eq_of_beq hb₂
                simpa using h2
              subst hc
              rw [if_pos rfl] at hin
              refine gtInner B hn (stop := (· == 34)) okI (fun tok y => Tv.L (Tv.cast (Tv.cmp (Ev.name 3) Ev.kStr op_eqs) ?_)) nI nb nIb nLI nLb nL rm (tok₀ := []) (rs₀ := r) (e₀ := false) ⟨weak st₃, L₂.pure p₃, C₂.step p₃ (by simp) (by simp), fun h => (nomatch h), by rw [List.length_nil]; lia, .refl _ _ _⟩ (by rfl)
                (kret _ _ _ _ (hp₂.trans p₃.up) hin) fun s₄ G h2 => sNil (sNil (back _ _ _ _ _ (hp₂.trans p₃.up) hin G h2))
              show (([y] : List Nat) == [34]) = (y == 34)
              rw [Bool.eq_iff_iff]; simp
            · have hc : ch ≠ 34 := fun e => by
                subst e
                exact absurd (show (([34] : List Nat) == [34]) = false from hb₂) (by decide)
              rw [if_neg hc] at hin
              have L₃ := L₂.pure p₃
              have C₃ := C₂.step p₃ (by simp) (by simp)
              have hp₃ := hp₂.trans p₃.up
              -- token += ch, then the loop over the bare word
              have bare : ∀ (ys r' : List Nat) s₄, St (gtC w h₀ q La I (gtD q I [] (some (.str ys)))) s₄ → LexAt w h₀ q T r' [] s₄.heap → CiAt q I b false s₄.heap → Step (La :: I :: q.all) [] s₇ s₄ → ys.length ≤ 1 → r'.length ≤ r.length → inT wsL.contains ys r' = startT rs → ∀ {p1 p2 p3 p4 p5 p6 p7 p8 p9 p10 p11 p12 p13 p14 p15 p16 p17 p18 p19 p20 p21 p22 p23 p24 p25 : Pos} {k1 : Nat}, (p10.endLine == p11.line) = true →
                  wpAny (model prog w) A (execs (.AugAssign (.Name "token" p19) .Add (.Name "ch" p20) p21 :: [.For (.Name "ch" p1) (.Name "fiter" p2) [.If (.Compare (.Name "ch" p22) [.In] [.Attribute (.Name "self" p23) "whitespace" p24] p25) [.Return (some (.Name "token" p3)) p4] [.If (.Compare (.Name "ch" p5) [.Eq] [.Constant (.str "\\") k1 p6] p7) [.Assign [.Name "ch" p8] (.Call (.Attribute (.Name "self" p9) "_read_char" p10) [] [] p11) p12] [] p13] p14,
                    .AugAssign (.Name "token" p15) .Add (.Name "ch" p16) p17] [] p18]) (gtC w h₀ q La I []).env) (fun f s₃ => match f with
                  | .next | .cont => ∃ m', m' < (ch :: r).length ∧ ∃ tok rs' e, m' = rs'.length ∧ GtS w h₀ q T [] La I b s₇ tok rs' e s₃ ∧ ((tok = [] ∧ startT rs' = startT rs) ∨ (rs' = [] ∧ startT rs = (tok, [])))
                  | .brk => wpAny (model prog w) A (execs [.Return (some (.Name "token" ⟨99, 15, 99, 20⟩)) ⟨99, 8, 99, 20⟩] (gtC w h₀ q La I []).env) Q E s₃
                  | .ret v => Q (.ret v) s₃) E'' s₄ := fun ys r' s₄ st₄ L₄ C₄ hp₄ hy hr' hin' _ _ _ _ _ _ _ _ _ _ _ _ _ _ _ _ _ _ _ _ _ _ _ _ _ _ hl => by
                refine sAug (c := gtC w h₀ q La I (gtD q I [] (some (.str ys)))) (d := .str ys) 1 (okI _) rm st₄ (Ev.name 3) (op_iadds (l := []) (Nat.le_trans (show ([] : List Nat).length + ys.length ≤ 1 by rw [List.length_nil]; lia) (by decide))) fun s₅ p₅ st₅ => ?_
                have st₅' : St (gtC w h₀ q La I (gtD q I ys (some (.str ys)))) s₅ := st₅
                refine gtInner B hn (stop := wsL.contains) okI (fun tok y => TvL.ws 0 (Ev.name 3)) nI nb nIb nLI nLb nL rm (tok₀ := ys) (rs₀ := r') (e₀ := false) ⟨St.fit (c := gtC w h₀ q La I []) st₅' ⟨rfl, rfl, rfl, trivial⟩, L₄.step p₅ allne, C₄.step p₅ (fun z => nLI (wrL _ z).symm) (fun z => nLb (wrL _ z).symm), fun h => (nomatch h), by lia, .refl _ _ _⟩ hl
                  (kret _ _ _ _ (hp₄.trans (stp p₅)) hin') fun s₆ G h2 => sNil (back _ _ _ _ _ (hp₄.trans (stp p₅)) hin' G h2)
              refine sIf (c := gtC w h₀ q La I (gtD q I [] (some (.str [ch])))) (okI _) rm st₃ (Tv.cmp (Ev.name 3) Ev.kStr op_eqs) (fun hb₃ s₄ p₄ st₄ => ?_) (fun hb₃ s₄ p₄ st₄ => ?_)
              · have hc : ch = 92 := by
                  have h2 : ([ch] : List Nat) = [92] := eq_of_beq hb₃
                  simpa using h2
                subst hc
                rw [if_pos rfl] at hin
                have L₄ := L₃.pure p₄
                refine wpAny_execs_cons (wpAny_Assign_Name (lexCall (c := gtC w h₀ q La I (gtD q I [] (some (.str [92])))) 0 (okI _) rm st₄ L₄ .nil (fun vs s₅ p₅ st₅ L₅ r₅ => ?_) (by rfl)) (by rfl))
                rw [RepL.nil_iff] at r₅; subst r₅
                refine wpAny_call (readChar B hn (by lia) A s₅ _ _ (rm.less (by lia)) st₅.old L₅ fun v s₆ p₆ L₆ hv => ?_)
                obtain ⟨t', rfl⟩ := hv
                have st₆ := st₅.step p₆ (fun a m => sub a (.tail _ m)) (fun a m z => ownne a m (.tail _ z)) (fun a o e z => h0ne a o e (.tail _ z)) L₆.there
                have C₅ := (C₃.step p₄ (by simp) (by simp)).step p₅ (by simp) (by simp)
                have C₆ := C₅.step p₆ nI nb
                refine store (c := gtC w h₀ q La I (gtD q I [] (some (.str [92])))) (d := .str (r.take 1)) 3 rfl (okI _) st₆ Rep.str' (.inl rfl) (fun _ h => nomatch h) fun s₇' p₇ st₇ => ?_
                refine sNil (wpAny_mono (bare (r.take 1) r.tail s₇' st₇ (L₆.step p₇ allne) (C₆.step p₇ (fun z => nLI (wrL _ z).symm) (fun z => nLb (wrL _ z).symm)) ?_ ?_ ?_ hin (by rfl)) (fun f s₈ h => ?_) fun _ _ h => h)
                · exact ((hp₃.trans (p₄.trans p₅).up).trans (p₆.mono (fun a m => .tail _ (.tail _ m)) (by simp))).trans (stp p₇)
                · rw [List.length_take]; lia
                · rw [List.length_tail]; lia
                · cases f with
                  | next => exact sNil h
                  | _ => exact h
              · have hc : ch ≠ 92 := fun e => by
                  subst e
                  exact absurd (show (([92] : List Nat) == [92]) = false from hb₃) (by decide)
                rw [if_neg hc] at hin
                refine sNil (wpAny_mono (bare [ch] r s₄ st₄ (L₃.pure p₄) (C₃.step p₄ (by simp) (by simp)) (hp₃.trans p₄.up) (by simp) (Nat.le_refl _) hin (by rfl)) (fun f s₈ h => ?_) fun _ _ h => h)
                cases f with
                | next => exact sNil h
                | _ => exact h
end
end Mine
end
section
open PySem PySem.W PyProof.Rows
set_option Elab.async false
set_option linter.unusedVariables false
set_option maxRecDepth 100000
set_option pp.deepTerms false
set_option pp.deepTerms.threshold 4
namespace Mine
section
variable {w : World} {h₀ : Heap} {q : Lx} {T : Int} {rs : List Nat} {ps : List (List Nat)}
set_option maxHeartbeats 1000000 in
/-- push_token -/
theorem pushToken (B : Base w h₀) {n : Nat} (hn : 4 ≤ n) (hpl : ps.length ≤ 1000) (u : List Nat) :
    ∀ (A : Around) (s : Shared) (v : Value) (Q : Value → Shared → Prop) (E : Value → Shared → Prop), Rm (n + 1) A → Ext h₀ s.heap → LexAt w h₀ q T rs ps s.heap → (∃ t, v = .str ⟨u.toArray⟩ t) →
      (∀ v s', Step q.all [] s s' → LexAt w h₀ q T rs (ps ++ [u]) s'.heap → Q v s') → codeAny (model prog w) A (.call (.ref 98) ⟨[.ref q.x, v], []⟩) (fun r s' => match r with | .ok (.ret v) => Q v s' | .ok _ => False | .error e => E e s') s := by
  intro A s v Q E rm old L hv k
  obtain ⟨t, rfl⟩ := hv
  refine fn_enterYc (n := n) q.all (o := _) (fd := fdOf w 98) (body := _) (params := [Str.ofString "self", Str.ofString "token"]) (args := [.ref q.x, .str u]) (d := .none) q.all (fun s => LexAt w h₀ q T rs ps s.heap) (fun s => LexAt w h₀ q T rs (ps ++ [u]) s.heap) (fun s s' h p => h.pure p) B rfl rfl rfl rfl rfl rfl rfl (fun vals h => ?_) (nodup_of rfl) (by decide) rfl
    (by intro x hx
        rcases memc hx with rfl | hx
        · exact .inl rfl
        · obtain rfl := mem1 hx; exact .inl rfl) rfl rfl rfl rfl ?_
    A s [.ref q.x, .str ⟨u.toArray⟩ t] Q E rm old L.there L.new (.cons Rep.ref' (.cons Rep.str' .nil)) L (fun _ h => h) (fun v s' p L' r => k v s' p L')
  · exact bindv2 h fun a b => rfl
  · intro A s La Q E ok rm st L hY hO k1 k2
    refine wpAny_execs_cons (wpAny_Expr_any (wpAny_Call_method (by rfl) (by rfl) (by rfl) PySem.F.plainAttrs_list slot_list_append PySem.F.type_list_append (lexGet (n := n) (v := fun _ _ _ => .ref q.pb) 0 ok rm st L (fun _ _ s₁ p₁ st₁ L₁ => ?_) (fun _ _ _ _ _ _ _ _ _ _ _ => by rfl))) (by rfl) (by rfl))
    refine ⟨let ⟨vs, pl, _⟩ := L₁.push; pl.isList.typeIs, fun b e => ?_, ?_⟩
    · cases e; obtain ⟨vs, ⟨m, g⟩, _⟩ := L₁.push; exact ⟨_, g, rfl⟩
    refine callW (n := n) ok Kp.builtin (Evs.cons (Ev.name 1) .nil) rm st₁ (fun us s₂ p₂ r₂ => ?_) rfl
    rw [RepL.cons_iff] at r₂; obtain ⟨y, r', rfl, au, bu⟩ := r₂
    rw [RepL.nil_iff] at bu; subst bu
    have L₂ := L₁.pure p₂
    obtain ⟨t', rfl⟩ := au.str_inv
    obtain ⟨vs, pl₂, re⟩ := L₂.push
    refine wpAny_list_append_plain pl₂ (fun h' pl' hs => ?_) (by rw [List.size_toArray, re.length, List.length_map]; exact Nat.le_trans hpl (by decide))
    have pp : Step [q.pb] [] s₂ { s₂ with heap := h' } := Step.but (tk := s₂.toks) hs (by simp)
    refine sNil (k2 _ ((p₁.trans p₂).up.trans (Lx.all1 (q := q) pp (by simp))) (L₂.pushed pp ⟨vs ++ [.str ⟨u.toArray⟩ t'], by simpa using pl', ?_⟩) rfl)
    rw [List.map_append]
    exact RepL.append (re.flatAll fun d m => by obtain ⟨_, _, rfl⟩ := List.mem_map.mp m; rfl) (.cons Rep.str' .nil)
end
section
variable {n : Nat} {c : Cx} {A : Around} {s : Shared} {E : Value → Shared → Prop} {Q : Flow → Shared → Prop} {x : Str} {w' : World} {env' : Env} {rest : List Stmt} {pos p2 p3 : Pos} {xa dx : Addr} {es : List DictEntry} {m : Nat} {name : Str} {e : Expr}
/-- self.name = e, the name being new -/
theorem sSetA (i : Nat) {sl'} (ok : Ok c) (rm : Rm n A) (st : St c s) (hx : s.heap.get? xa = some (instObj 101 dx)) (hd : s.heap.get? dx = some (dictOf es m)) (hdx : dx ∈ c.X) (hdo : dx ∉ c.own) (hne : xa ≠ dx) {P : Value → Shared → Prop}
    (he : ∀ (Q : Value → Shared → Prop) E, (∀ v s', Pure s s' → P v s' → Q v s') → wpAny c.M A (eval e c.env) Q E s)
    (k : ∀ v s₁ s' H tk m', P v s₁ → Pure s s₁ → Step [dx] [] s₁ s' → St c s' → s'.heap.get? xa = some (instObj 101 dx) → s'.heap.get? dx = some (dictOf (es ++ [⟨H, .str name tk, v⟩]) m') → wpAny (model prog w') A (execs rest env') Q E s')
    (hput : ∀ H key v, putL name H key v es = es ++ [⟨H, key, v⟩]) (hl : (getL name es).isSome = true) (hz : es.length ≤ 10)
    (ht : ∀ w, takerIn (KF w) 101 name = some none := by intro _; rfl)
    (hi : c.vs[i]? = some (x, sl') := by rfl) (hdi : c.ds[i]? = some (some (.ref xa)) := by rfl) (hx1 : (x == ("__debug__" : Str)) = false := by rfl) (hc : (x == ("__classdict__" : Str)) = false := by rfl)
    (hsw : swapsWith e (some (.Attribute (.Name x p2) name p3)) pos.line c.env = pure false := by rfl) (he' : env' = c.env := by rfl) (hw' : w' = c.w := by rfl) :
    wpAny (model prog w') A (execs (.Assign [.Attribute (.Name x p2) name p3] e pos :: rest) env') Q E s := by
  subst he' hw'
  refine wpAny_execs_cons (plainObj_wpAny_Assign_Attribute (he _ _ fun v s₁ p₁ hv => ?_) hsw)
  have st₁ := st.pure p₁
  refine evRun ok rm st₁ (Ev.name i hi hdi hx1 hc) fun u s₂ p₂ r₂ => ?_
  rw [r₂.ref_inv]
  have st₂ := st₁.pure p₂
  have hx₂ := p₂.pure _ _ (p₁.pure _ _ hx)
  have hd₂ := p₂.pure _ _ (p₁.pure _ _ hd)
  refine setA (C := 101) (K := KF c.w) (ok.base.K.keeps st₂.old) hd₂ ⟨hx₂, rfl, rfl, hd₂⟩ rfl (by rfl) (by rfl) (ht _) (by rfl) hl (es' := es ++ [⟨PyData.keyHash c.w.params name, .str name (s₂.toks + 1), v⟩]) (n' := putN name es m) (by rw [hput]) (by rw [List.length_append, List.length_singleton]; lia) fun h' hs hD => ?_
  have pp : Step [dx] [] s₂ { s₂ with heap := h', toks := s₂.toks + 2 } := .but hs (by simp)
  exact k v s₁ _ _ _ _ hv p₁ (p₂.up.trans pp) (st₂.step pp (fun b mm => by obtain rfl := mem1 mm; exact hdx) (fun b mm z => by obtain rfl := mem1 z; exact hdo mm) (fun b o e z => by obtain rfl := mem1 z; rw [ok.new _ hdx] at e; cases e) (Low.cons hD Low.nil))
    (pp.ext _ _ (by simpa using hne) hx₂) hD
end
section
variable {w : World} {h₀ : Heap}
set_option maxHeartbeats 1000000 in
/-- _netrclex.__init__ -/
theorem lexInit (B : Base w h₀) {n : Nat} (hn : 4 ≤ n) {x dx fs : Addr} (hne : x ≠ dx) :
    ∀ (A : Around) (s : Shared) (Q : Value → Shared → Prop) (E : Value → Shared → Prop), Rm (n + 1) A → Ext h₀ s.heap → s.heap.get? x = some (instObj 101 dx) → s.heap.get? dx = some emptyDict → h₀.get? x = none → h₀.get? dx = none →
      (∀ s' pb h1 h2 h3 h4 t1 t2 t3 t4 t5 t6 m, Step [x, dx] [] s s' → s.heap.get? pb = none → LstS pb [] s'.heap → s'.heap.get? x = some (instObj 101 dx) → s'.heap.get? dx = some (dictOf (lxEs ⟨x, dx, fs, 0, 0, 0, 0, 0, pb⟩ 1 h1 h2 h3 h4 t1 t2 t3 t4 t5 t6) m) → Q .none s') →
      codeAny (model prog w) A (.call (.ref 77) ⟨[.ref x, .ref fs], []⟩) (fun r s' => match r with | .ok (.ret v) => Q v s' | .ok _ => False | .error e => E e s') s := by
  intro A s Q E rm old hx hd nx nd k
  refine fn_enterYc (n := n) [x, dx] (o := _) (fd := fdOf w 77) (body := _) (params := [Str.ofString "self", Str.ofString "fp"]) (args := [.ref x, .ref fs]) (d := .none) [x, dx]
    (fun s' => s'.heap.get? x = some (instObj 101 dx) ∧ s'.heap.get? dx = some emptyDict ∧ ∀ a, s'.heap.get? a = none → s.heap.get? a = none)
    (fun s' => ∃ pb h1 h2 h3 h4 t1 t2 t3 t4 t5 t6 m, s.heap.get? pb = none ∧ LstS pb [] s'.heap ∧ s'.heap.get? x = some (instObj 101 dx) ∧ s'.heap.get? dx = some (dictOf (lxEs ⟨x, dx, fs, 0, 0, 0, 0, 0, pb⟩ 1 h1 h2 h3 h4 t1 t2 t3 t4 t5 t6) m))
    (fun s s' h p => ⟨p.pure _ _ h.1, p.pure _ _ h.2.1, fun a e => h.2.2 a (none_of_ext p e)⟩) B rfl rfl rfl rfl rfl rfl rfl (fun vals h => ?_) (nodup_of rfl) (by decide) rfl
    (by intro x hx
        rcases memc hx with rfl | hx
        · exact .inl rfl
        · obtain rfl := mem1 hx; exact .inl rfl) rfl rfl rfl rfl ?_
    A s [.ref x, .ref fs] Q E rm old (Low.cons hx (Low.cons hd Low.nil)) (fun a m => by
      rcases memc m with rfl | m
      · exact nx
      · obtain rfl := mem1 m; exact nd) (.cons Rep.ref' (.cons Rep.ref' .nil)) ⟨hx, hd, fun _ h => h⟩ (fun _ h => h) (fun v s' p R' r => by
        rw [r.none_inv]
        obtain ⟨pb, h1, h2, h3, h4, t1, t2, t3, t4, t5, t6, m, e1, e2, e3, e4⟩ := R'
        exact k s' pb h1 h2 h3 h4 t1 t2 t3 t4 t5 t6 m p e1 e2 e3 e4)
  · exact bindv2 h fun a b => rfl
  · intro A s₁ La Q E ok rm st hP hY hO k1 k2
    obtain ⟨hx, hd, hfr⟩ := hP
    have hdX := List.mem_append_right (La :: (scopeVs (La + 1) (fdOf w 77).scope.names).filterMap (·.2)) (hY dx (by simp))
    have hdo := fun m => hO dx m (by simp)
    have hP : ∀ {e : Expr} {d : D} {s : Shared}, St (fnCx w h₀ [x, dx] (fdOf w 77) 77 La [some (.ref x), some (.ref fs)]) s → Ev n (fnCx w h₀ [x, dx] (fdOf w 77) 77 La [some (.ref x), some (.ref fs)]) e d → ∀ (Q : Value → Shared → Prop) E, (∀ v s', Pure s s' → Rep (fnCx w h₀ [x, dx] (fdOf w 77) 77 La [some (.ref x), some (.ref fs)]).X s'.heap d v → Q v s') → wpAny (model prog w) A (eval e (fnCx w h₀ [x, dx] (fdOf w 77) 77 La [some (.ref x), some (.ref fs)]).env) Q E s := fun st he Q E k => evRun ok rm st he k
    have up : ∀ {s s'}, Step [dx] [] s s' → ∀ a, a ≠ dx → ∀ o, s.heap.get? a = some o → s'.heap.get? a = some o := fun p a na o e => p.ext _ _ (by simpa using na) e
    refine sSetA (c := fnCx w h₀ [x, dx] (fdOf w 77) 77 La [some (.ref x), some (.ref fs)]) (es := []) (m := 0) 0 ok rm st hx hd hdX hdo hne (hP st Ev.kInt) (fun v1 sa s₂ H1 tk1 m1 r1 pa p2 st₂ hx₂ hd₂ => ?_) (fun _ _ _ => rfl) (by rfl) (by show 0 ≤ 10; decide)
    obtain ⟨t5, rfl⟩ := r1.int_inv
    refine sSetA (c := fnCx w h₀ [x, dx] (fdOf w 77) 77 La [some (.ref x), some (.ref fs)]) 0 ok rm st₂ hx₂ hd₂ hdX hdo hne (hP st₂ (Ev.name 1)) (fun v2 sb s₃ H2 tk2 m2 r2 pb p3 st₃ hx₃ hd₃ => ?_) (fun _ _ _ => rfl) (by rfl) (by show 1 ≤ 10; decide)
    obtain rfl := r2.ref_inv
    refine sSetA (c := fnCx w h₀ [x, dx] (fdOf w 77) 77 La [some (.ref x), some (.ref fs)]) 0 ok rm st₃ hx₃ hd₃ hdX hdo hne (hP st₃ Ev.kStr) (fun v3 sc s₄ H3 tk3 m3 r3 pc p4 st₄ hx₄ hd₄ => ?_) (fun _ _ _ => rfl) (by rfl) (by show 2 ≤ 10; decide)
    obtain ⟨t6, rfl⟩ := r3.str_inv
    refine sSetA (c := fnCx w h₀ [x, dx] (fdOf w 77) 77 La [some (.ref x), some (.ref fs)]) (P := fun v s' => ∃ pb, v = .ref pb ∧ s₄.heap.get? pb = none ∧ LstS pb [] s'.heap) 0 ok rm st₄ hx₄ hd₄ hdX hdo hne (fun Q E k => ?_) (fun v4 sd s₅ H4 tk4 m4 r4 pd p5 st₅ hx₅ hd₅ => ?_) (fun _ _ _ => rfl) (by rfl) (by show 3 ≤ 10; decide)
    · refine List_ (Calls.spliced_nil ?_)
      unfold newList
      refine wpAny_newObj_type (k _ _ (.heap (tk := s₄.toks) fun b o _ e => Heap.get?_push_of_some _ e) ⟨_, rfl, get_size _, ?_⟩) (by size_fits)
      exact ⟨[], ⟨_, Heap.get?_push_size _ rfl⟩, .nil⟩
    · obtain ⟨pbA, rfl, fpb, hpb⟩ := r4
      have hpb' : pbA ≠ dx := fun e => by rw [e, hd₄] at fpb; cases fpb
      have pz := (((pa.up.trans p2).trans (pb.up.trans p3)).trans (pc.up.trans p4)).trans (pd.up.trans p5)
      refine sNil (k2 s₅ (pz.mono (fun a m => List.mem_append_right _ (by obtain rfl := mem1 m; simp)) (by simp)) ⟨pbA, H1, H2, H3, H4, tk1, tk2, tk3, tk4, t5, t6, m4, hfr _ ?_, hpb.step p5 (by simpa using hpb'), hx₅, hd₅⟩ rfl)
      have p14 := ((pa.up.trans p2).trans (pb.up.trans p3)).trans (pc.up.trans p4)
      cases e : s₁.heap.get? pbA with
      | none => rfl
      | some o => rw [p14.ext _ _ (by simpa using hpb') e] at fpb; cases fpb
end
end Mine
end
section
open PySem PySem.W PyProof.Rows
set_option Elab.async false
set_option linter.unusedVariables false
set_option maxRecDepth 100000
set_option pp.deepTerms false
set_option pp.deepTerms.threshold 4
namespace Mine
/-! entering a def whose answer is told by a predicate -/
theorem fn_enterV (X : List Addr) {n : Nat} {w : World} {h₀ : Heap} {a : Addr} {o : Obj} {fd : FuncData} {body : List Stmt} {params : List Str} {args : List D} {ds : List (Option D)} (Y : List Addr) (P : Shared → Prop) (R : Shared → Value → Shared → Prop)
    (B : Base w h₀) (ho : (KF w).lookup a = some o) (hdata : o.data = .func fd) (hbody : fd.body = .stmts body) (hcode : codeIn (KF w) fd.code fd.qualname = true)
    (hclo : fd.closure = []) (hglob : fd.globals = mainGlobals) (hblt : fd.builtins = builtinsNs) (hbind : ∀ vals, vals.length = args.length → bindArgs fd ⟨vals, []⟩ = pure (params.zip vals))
    (nd : (fd.scope.names.map (·.1)).Nodup) (ndp : params.Nodup) (hpl : params.length = args.length) (hpk : ∀ x ∈ params, fd.scope.names.lookup x = some .local ∨ fd.scope.names.lookup x = some .cell)
    (hds : initDs fd.scope.names params args = ds) (hco : fd.scope.isCoroutine = false) (hgen : fd.scope.isGenerator = false) (hkf : fd.scope.kind = .function)
    (run : ∀ (A : Around) (s₀ s : Shared) (L : Addr) (Q : Flow → Shared → Prop) (E : Value → Shared → Prop), Ok (fnCx w h₀ X fd a L ds) → Rm n A → St (fnCx w h₀ X fd a L ds) s → P s₀ → Pure s₀ s → (∀ b ∈ (fnCx w h₀ X fd a L ds).own, s₀.heap.get? b = none) → (∀ b ∈ Y, b ∈ X) → (∀ b ∈ (fnCx w h₀ X fd a L ds).own, b ∉ Y) →
      (∀ v s', Step ((fnCx w h₀ X fd a L ds).wr ++ Y) [] s s' → R s₀ v s' → Q (.ret v) s') → wpAny (model prog w) A (execs body (fnCx w h₀ X fd a L ds).env) Q E s) :
    ∀ (A : Around) (s : Shared) (vals : List Value) (Q : Value → Shared → Prop) (E : Value → Shared → Prop), Rm (n + 1) A → Ext h₀ s.heap → Low X s.heap → (∀ a ∈ X, h₀.get? a = none) → RepL X s.heap args vals → P s → (∀ b ∈ Y, b ∈ X) →
      (∀ v s', Step Y [] s s' → R s v s' → Q v s') → codeAny (model prog w) A (.call (.ref a) ⟨vals, []⟩) (fun r s' => match r with | .ok (.ret v) => Q v s' | .ok _ => False | .error e => E e s') s := by
  intro A s vals Q E rm old low nw r hPs hY k
  obtain ⟨p, loose, mg, mb, T⟩ := B.T
  have Ks := B.K.keeps old
  have hlen := r.length
  have zl : (params.zip vals).map (·.1) = params := by rw [List.map_fst_zip]; lia
  have own_ge : ∀ b ∈ s.heap.objs.size :: (scopeVs (s.heap.objs.size + 1) fd.scope.names).filterMap (·.2), s.heap.objs.size ≤ b := by
    intro b hb
    rcases memc hb with rfl | hb
    · exact Nat.le_refl _
    · obtain ⟨⟨x, o'⟩, hx, e⟩ := List.mem_filterMap.mp hb
      simp only at e; subst e
      have := scopeVs_ge hx
      lia
  have fresh : ∀ b, s.heap.objs.size ≤ b → s.heap.get? b = none := fun b hb => by
    cases e : s.heap.get? b with
    | none => rfl
    | some o' => exact absurd (Heap.lt_size e) (Nat.not_lt.mpr hb)
  refine codeAny_call_cells rm.room (Ks _ _ ho) hdata (T.nolimit.keeps old) (codeRec_of Ks hcode) hbody (hbind vals hlen) hclo ?_ (fun s₁ IC => ?_) hco hgen hkf
  · intro x hx
    have : x.1 ∈ params := by
      have := List.mem_map_of_mem (f := (·.1)) hx
      rw [zl] at this; exact this
    rcases hpk _ this with h | h
    · exact .inl h
    · refine .inr ⟨h, ?_⟩
      have : ∃ b, (x.1, some b) ∈ scopeVs (s.heap.objs.size + 1) fd.scope.names := by
        have aux : ∀ (names : List (Str × NameKind)) (m : Nat), names.lookup x.1 = some .cell → ∃ b, (x.1, some b) ∈ scopeVs m names := by
          intro names
          induction names with
          | nil => intro m e; simp at e
          | cons q r ih =>
            intro m e
            obtain ⟨y, kk⟩ := q
            unfold scopeVs
            by_cases hy : x.1 = y
            · subst hy
              rw [lookup_hit] at e; cases e
              rw [if_neg (by decide), if_pos (by decide)]
              exact ⟨m, .head _⟩
            · rw [lookup_skip hy] at e
              split
              · obtain ⟨b, hb⟩ := ih m e; exact ⟨b, .tail _ hb⟩
              · split
                · obtain ⟨b, hb⟩ := ih (m + 1) e; exact ⟨b, .tail _ hb⟩
                · exact ih m e
        exact aux _ _ h
      obtain ⟨b, hb⟩ := this
      rw [cellsFrom_hit nd hb]; rfl
  · have c1 : Ext s.heap s₁.heap := IC.toInCall.keep
    obtain ⟨h', tk, e₁⟩ := IC.toInCall.same
    have ok : Ok (fnCx w h₀ X fd a s.heap.objs.size ds) := by
      refine ⟨B, hkf, hglob, hblt, fun x hx => scopeVs_loc nd hx, fun x b hx => ⟨.inl (scopeVs_cel nd hx), cellsFrom_hit nd hx⟩, scopeVs_nd nd, scopeVs_ndc, fun b hb => List.mem_append_left _ hb, fun b hb => ?_⟩
      rcases List.mem_append.mp hb with hb | hb
      · have := fresh b (own_ge b hb)
        cases e : h₀.get? b with
        | none => rfl
        | some o' => have := old _ _ e; rw [fresh b (own_ge b hb)] at this; cases this
      · exact nw b hb
    have rX : RepL (fnCx w h₀ X fd a s.heap.objs.size ds).X s.heap args vals := r.more fun b hb => by
      rcases List.mem_append.mp hb with hb | hb
      · exact .inr (fresh b (own_ge b hb))
      · exact .inl hb
    have rX' := rX.ext c1
    have dsAt : ∀ (i : Nat) x o' d', (scopeVs (s.heap.objs.size + 1) fd.scope.names)[i]? = some (x, o') → ds[i]? = some (some d') → (params.zip args).lookup x = some d' := by
      intro i x o' d' e1 e2
      rw [← hds] at e2
      unfold initDs at e2
      rw [scopeVs_map (fun y => (params.zip args).lookup y) fd.scope.names 0 (s.heap.objs.size + 1), List.getElem?_map, e1] at e2
      simpa using e2
    have st : St (fnCx w h₀ X fd a s.heap.objs.size ds) s₁ := by
      refine ⟨old.trans c1, fun b hb => ?_, ?_, ⟨_, IC.toInCall.ns, fun i x d' e1 e2 => ?_⟩, fun i x b e1 => ?_⟩
      · rcases List.mem_append.mp hb with hb | hb
        · rcases memc hb with rfl | hb
          · obtain ⟨o', _, _, g, _⟩ := IC.toInCall.ns; exact ⟨o', g⟩
          · obtain ⟨⟨x, o'⟩, hx, e⟩ := List.mem_filterMap.mp hb
            simp only at e; subst e
            obtain ⟨o', g, _⟩ := IC.cell x b (cellsFrom_hit nd hx)
            exact ⟨o', g⟩
        · obtain ⟨o', g⟩ := low b hb; exact ⟨o', c1 _ _ g⟩
      · show ds.length = (scopeVs (s.heap.objs.size + 1) fd.scope.names).length
        rw [← hds]
        unfold initDs
        rw [List.length_map]
        have := congrArg List.length (scopeVs_map (fun y => y) fd.scope.names 0 (s.heap.objs.size + 1))
        simpa using this
      · obtain ⟨v, m, r'⟩ := zip_mem rX' (dsAt i x _ d' e1 e2)
        exact ⟨v, bindL_get (by rw [zl]; exact ndp) m (scopeVs_loc nd (List.mem_of_getElem? e1)), r'⟩
      · refine ⟨_, IC.cell x b (cellsFrom_hit nd (List.mem_of_getElem? e1)), fun d' e2 => ?_⟩
        obtain ⟨v, m, r'⟩ := zip_mem rX' (dsAt i x _ d' e1 e2)
        exact ⟨v, bindC_get (by rw [zl]; exact ndp) m (scopeVs_cel nd (List.mem_of_getElem? e1)), r'⟩
    have p0 : Pure s s₁ := by rw [e₁]; exact .heap (by rw [e₁] at c1; exact c1.toX)
    have back : ∀ s', Step ((fnCx w h₀ X fd a s.heap.objs.size ds).wr ++ Y) [] s₁ s' → Step Y [] s s' := fun s' p => by
      refine ⟨fun b o' hb g => p.ext b o' (fun q => ?_) (c1 _ _ g), p.os.trans p0.os, fun h => p.bare (p0.bare h), fun g st' n e => p.gen g st' n (p0.gen g st' n e), Nat.le_trans p0.gsize p.gsize⟩
      rcases List.mem_append.mp q with q | q
      · have := own_ge b (Cx.wr_own q)
        rw [fresh b this] at g; cases g
      · exact hb q
    refine run _ s s₁ s.heap.objs.size _ _ ok rm.deeper st hPs p0 (fun b hb => fresh b (own_ge b hb)) hY (fun b hb q => ?_) (fun v s' p hR => k v s' (back s' p) hR)
    obtain ⟨o', g⟩ := low b (hY b q)
    rw [fresh b (own_ge b hb)] at g; cases g
end Mine
end
section
open PySem PySem.W PyProof.Rows
set_option Elab.async false
set_option linter.unusedVariables false
set_option maxRecDepth 100000
set_option pp.deepTerms false
set_option pp.deepTerms.threshold 4
namespace Mine
section
variable {c : Cx} {A : Around} {E : Value → Shared → Prop} {s : Shared} {params : Arguments} {body : Expr} {scope : Scope} {pos : Pos} {clos : List (Str × Addr)} {ps : Array Value}
theorem lamMake2 {Q : Value → Shared → Prop} (ok : Ok c) (hcode : c.env.code = .ref 111) (old : Ext c.h₀ s.heap) (hP : s.heap.get? 107 = some (tabObj ps)) (ht : TriplesOk ps.toList) (hnf : codeAmong pos ps.toList = none) (hcl : closureFor scope c.env = pure clos)
    (h : ∀ c' ctv pm f h' tk, Heap.ExtBut 107 s.heap h' → s.heap.get? f = none → f ≠ 107 → s.heap.get? c' = none → h'.get? f = some (kla_obj "<lambda>" (c.env.qual ++ "<lambda>") params body scope clos pm c' ctv) → h'.CodeRec (.ref c') (c.env.qual ++ "<lambda>") → h'.get? 107 = some (tabObj (ps ++ #[rawInt pos.line, rawInt pos.col, .ref c'])) → Q (.ref f) { s with heap := h', toks := tk })
    (hdef : defaultsOf params c.env = ([], []) := by rfl) : wpAny c.M A (eval (.Lambda params body scope pos) c.env) Q E s := by
  obtain ⟨mg, Tg, bm, ob, b1, b2, b3, b4, b5, b6⟩ := ok.base.bm
  have hm : ∀ b o, c.h₀.get? b = some o → b ≠ 107 := fun b o e q => by rw [q, ok.base.no] at e; cases e
  have hgP : mainGlobals ≠ 107 := by decide
  have hbG : bm ≠ mainGlobals := fun q => by
    obtain ⟨o, es, ep, e, hd, _⟩ := Tg
    rw [q, e] at b3; cases b3; rw [hd] at b6; cases b6
  refine kla_eval hdef (kla_makeFunction (mg := mg) hcl ok.glob (Tg.keeps old) hcode (ok.base.C.keeps old) hP ht hnf hgP ⟨bm, ob, b1, b2, hbG, hm _ _ b3, old _ _ b3, b4, b5, b6⟩ fun c' ctv h' tk hx hge hlt hrec htb => ?_)
  refine h c' ctv _ h'.objs.size _ tk (fun b o n e => Heap.get?_push_of_some _ (hx b o n e)) (fresh_ge (Nat.le_of_lt (Nat.lt_of_le_of_lt hge hlt))) (fun q => ?_) (fresh_ge hge) (Heap.get?_push_size _ rfl) ?_ (Heap.get?_push_of_some _ htb)
  · have := Heap.lt_size htb
    rw [q] at this; exact absurd this (Nat.lt_irrefl _)
  · obtain ⟨c₂, oc, vs, t, e2, hoc, hd, hv⟩ := hrec
    exact ⟨c₂, oc, vs, t, e2, Heap.get?_push_of_some _ hoc, hd, hv⟩
end

theorem Rm.under {n : Nat} {A : Around} (x : Rm (n + 1) A) (C : Addr) (vs : List Value) : Rm n (A.under (.builtin "type.__call__" ⟨.ref C :: vs, []⟩)) := by
  have h1 : (Code.builtin "type.__call__" ⟨.ref C :: vs, []⟩).weight = 1 := rfl
  have h2 : (Code.builtin "type.__call__" ⟨.ref C :: vs, []⟩).cUnits = 1 := rfl
  refine ⟨x.handled, ?_, ?_⟩
  · have := x.depth
    show A.depth + _ + n < _
    rw [h1]; lia
  · have := x.units
    show A.units + _ + 60 * n < _
    rw [h2]; lia
theorem none_back {Y : List Addr} {gs} {s s' : Shared} (p : Step Y gs s s') (hl : Low Y s'.heap) {a : Addr} (e : s'.heap.get? a = none) : s.heap.get? a = none := by
  by_cases m : a ∈ Y
  · obtain ⟨o, g⟩ := hl a m; rw [e] at g; cases g
  · cases q : s.heap.get? a with
    | none => rfl
    | some o => rw [p.ext _ _ m q] at e; cases e
theorem Low.step {Y X : List Addr} {gs} {s s' : Shared} (l : Low X s.heap) (p : Step Y gs s s') (k : Low Y s'.heap) : Low X s'.heap := l.extX p.ext k
theorem St.plusY {c : Cx} {s s' : Shared} {N : Addr} {Y : List Addr} {gs} (st : St c s) (p : Step Y gs s s') (hY : ∀ a ∈ Y, a ∈ c.X) (hO : ∀ a ∈ c.own, a ∉ Y) (h0 : ∀ a o, c.h₀.get? a = some o → a ∉ Y) (hl : Low Y s'.heap) (h : s.heap.get? N = none) (hN : ∃ o, s'.heap.get? N = some o) : St (c.plus N) s' := by
  have k : ∀ {d v}, Rep c.X s.heap d v → Rep (N :: c.X) s'.heap d v := fun r => (r.more fun b hb => by
    rcases memc hb with rfl | hb
    · exact .inr h
    · exact .inl hb).extX (p.ext.mono fun a m => .tail _ (hY a m))
  have st' := st.step p hY hO h0 hl
  refine ⟨st'.old, fun a m => ?_, st.len, ?_, ?_⟩
  · rcases memc m with rfl | m
    · exact hN
    · exact st'.low a m
  · obtain ⟨m, hn, hm⟩ := st.ns
    exact ⟨m, hn.at' fun o e => p.ext _ o (hO _ (.head _)) e, fun i x d e1 e2 => let ⟨v, a, b⟩ := hm i x d e1 e2; ⟨v, a, k b⟩⟩
  · intro i x a e
    obtain ⟨ov, ⟨o, ho, hd⟩, hv⟩ := st.cells i x a e
    have ma : a ∈ c.own := .tail _ (List.mem_filterMap.mpr ⟨_, List.mem_of_getElem? e, rfl⟩)
    exact ⟨ov, ⟨o, p.ext _ _ (hO _ ma) ho, hd⟩, fun d e => let ⟨v, a, b⟩ := hv d e; ⟨v, a, k b⟩⟩
section
variable {w : World} {h₀ : Heap}
set_option maxHeartbeats 4000000 in
/-- _law_lexer -/
theorem lexer_fn (B : Base w h₀) {n : Nat} (hn : 4 ≤ n) (l : List Nat) (hl : l.length ≤ 1000) :
    ∀ (A : Around) (s : Shared) (v : Value) (Q : Value → Shared → Prop) (E : Value → Shared → Prop), Rm (n + 3) A → Ext h₀ s.heap → s.heap.get? 107 = some (tabObj #[]) → (∃ t, v = .str ⟨l.toArray⟩ t) →
      (∀ q s', Step [107] [] s s' → (∀ a ∈ q.all, s.heap.get? a = none) → LexAt w h₀ q (1 + l.count 10) l [] s'.heap → GrownAt 107 s'.heap → Q (.ref q.x) s') → codeAny (model prog w) A (.call (.ref 112) ⟨[v], []⟩) (fun r s' => match r with | .ok (.ret v) => Q v s' | .ok _ => False | .error e => E e s') s := by
  intro A s v Q E rm old h107 hv k
  obtain ⟨t, rfl⟩ := hv
  refine fn_enterV [107] (n := n + 2) (o := _) (fd := fdOf w 112) (body := _) (params := [Str.ofString "text"]) (args := [.str l]) [107] (fun s => s.heap.get? 107 = some (tabObj #[]))
    (fun s v s' => ∃ q : Lx, v = .ref q.x ∧ (∀ a ∈ q.all, s.heap.get? a = none) ∧ LexAt w h₀ q (1 + l.count 10) l [] s'.heap ∧ GrownAt 107 s'.heap) B rfl rfl rfl rfl rfl rfl rfl (fun vals h => ?_) (nodup_of rfl) (by decide) rfl (by intro x hx; obtain rfl := mem1 hx; exact .inl rfl) rfl rfl rfl rfl ?_
    A s [.str ⟨l.toArray⟩ t] Q E rm old (Low.cons h107 Low.nil) (fun a m => by obtain rfl := mem1 m; exact B.no) (.cons Rep.str' .nil) h107 (fun _ h => h) (fun v s' p R => by
      obtain ⟨q, rfl, h1, h2, h3⟩ := R
      exact k q s' p h1 h2 h3)
  · exact bindv1 h fun a => rfl
  · intro A s₀ s La Q E ok rm st h107 p0 hown hY hO k
    replace h107 := p0.pure _ _ h107
    let c0 : Cx := fnCx w h₀ [107] (fdOf w 112) 112 La [some (.str l), none, none]
    have n107 : ∀ a ∈ c0.own, a ≠ 107 := fun a m e => hO a m (by rw [e]; simp)
    -- rest = list(text)
    refine wpAny_execs_cons (wpAny_Assign_Name (wpAny_Call_ofName (builtinName (c := c0) ok st PyProof.Rows.boot_list ?_ rfl (fun _ => rfl) (by decide) rfl)) (by rfl))
    refine callW (c := c0) (n := n + 2) ok Kp.type (Evs.cons (Ev.name 0) .nil) rm st (fun us s₁ p₁ r₁ => ?_) rfl
    rw [RepL.cons_iff] at r₁; obtain ⟨y, r', rfl, au, bu⟩ := r₁
    rw [RepL.nil_iff] at bu; subst bu
    obtain ⟨tt, rfl⟩ := au.str_inv
    have st₁ := st.pure p₁
    refine call_list_str rm.handled _ _ (fun h₂ tk₂ acc cc hk hg hi => ?_) (by simpa using Nat.le_trans hl (by decide))
    have fr := get_size s₁.heap
    have hls : LstS s₁.heap.objs.size (sgs l) h₂ := by
      refine ⟨acc.toList, ⟨_, by simpa using hg⟩, ?_⟩
      obtain ⟨hs, hp⟩ := hi
      show RepL [] h₂ ((l.map fun c => [c]).map D.str) acc.toList
      rw [List.map_map]
      refine signs_rep l acc.toList (by rw [Array.length_toList, hs]; simp) fun j v e => ?_
      obtain ⟨c, u, e1, e2⟩ := hp j v (by simpa using e)
      exact ⟨c, u, by simpa using e1, e2⟩
    have p₂ : Pure s₁ { s₁ with heap := h₂, toks := tk₂ } := .heap fun b o _ e => hk b o e
    have fr0 : h₀.get? s₁.heap.objs.size = none := by
      cases e : h₀.get? s₁.heap.objs.size with
      | none => rfl
      | some o => have := st₁.old _ _ e; rw [fr] at this; cases this
    have frS : s₀.heap.get? s₁.heap.objs.size = none := none_of_ext (p0.trans p₁) fr
    revert hls fr fr0 frS
    generalize s₁.heap.objs.size = R
    intro fr hls fr0 frS
    have okR : ∀ ds, Ok ((c0.plus R).wd ds) := fun ds => (ok.plus fr0).wd ds
    have st₂ := St.plus (c := c0) st₁ p₂ fr hls.there
    have nR : R ∉ c0.own := fun m => by obtain ⟨o, g⟩ := st₁.low R (ok.own R m); rw [fr] at g; cases g
    have R107 : R ≠ 107 := fun e => by rw [e, p₁.pure _ _ h107] at fr; cases fr
    have wo : ∀ {ds}, ∀ a ∈ ((c0.plus R).wd ds).wr, a ∈ c0.own := fun a m => Cx.wr_own m
    refine store (c := c0.plus R) (d := .ref R) 2 rfl (okR _) st₂ Rep.ref' (.inr rfl) (fun a e => by cases e; exact Nat.le_succ _) fun s₃ p₃ st₃ => ?_
    have hls₃ := hls.step p₃ (fun m => nR (wo _ m))
    have h107₃ : s₃.heap.get? 107 = some (tabObj #[]) := p₃.ext _ _ (fun m => n107 _ (wo _ m) rfl) (p₂.pure _ _ (p₁.pure _ _ h107))
    -- stream = lambda: None
    refine wpAny_execs_cons (wpAny_Assign_Name (lamMake2 (c := (c0.plus R).wd [some (.str l), none, some (.ref R)]) (clos := []) (okR _) rfl st₃.old h107₃ trivial rfl (closureFor_of (by rfl)) fun c1 ct1 pm1 fs h₄ tk₄ x₄ ffs nfs fc1 gfs rec1 t₄ => ?_) (by rfl))
    have Rn : h₀.get? 107 = none := B.no
    have q₄ : Step [107] [] s₃ { s₃ with heap := h₄, toks := tk₄ } := .extBut x₄ (by simp)
    have in107 : ∀ {X : List Addr}, 107 ∈ X → ∀ a ∈ [(107 : Addr)], a ∈ X := fun h a m => by obtain rfl := mem1 m; exact h
    have ow107 : ∀ {ds}, ∀ a ∈ ((c0.plus R).wd ds).own, a ∉ [(107 : Addr)] := fun a m z => by rw [List.mem_singleton] at z; exact n107 a m z
    have h0107 : ∀ a o, h₀.get? a = some o → a ∉ [(107 : Addr)] := fun a o e z => by obtain rfl := mem1 z; rw [Rn] at e; cases e
    have frfs0 : h₀.get? fs = none := by
      cases e : h₀.get? fs with
      | none => rfl
      | some o => have := st₃.old _ _ e; rw [ffs] at this; cases this
    have st₄ := St.plusY (c := (c0.plus R).wd [some (.str l), none, some (.ref R)]) (N := fs) st₃ q₄ (in107 (.tail _ (List.mem_append_right _ (.head _)))) ow107 h0107 (Low.cons t₄ Low.nil) ffs ⟨_, gfs⟩
    have okF : ∀ ds, Ok (((c0.plus R).plus fs).wd ds) := fun ds => ((okR []).plus frfs0).wd ds
    have wo' : ∀ {ds}, ∀ a ∈ (((c0.plus R).plus fs).wd ds).wr, a ∈ c0.own := fun a m => Cx.wr_own m
    have fsR : fs ≠ R := fun e => by obtain ⟨o, g⟩ := hls₃.there; rw [← e, ffs] at g; cases g
    have fsO : fs ∉ c0.own := fun m => by obtain ⟨o, g⟩ := st₃.low fs (.tail _ (ok.own fs m)); rw [ffs] at g; cases g
    refine store (c := ((c0.plus R).plus fs).wd [some (.str l), none, some (.ref R)]) (d := .ref fs) 1 rfl (okF _) st₄ Rep.ref' (.inl rfl) (fun _ h => nomatch h) fun s₅ p₅ st₅ => ?_
    have t₅ := p₅.ext _ _ (fun m => n107 _ (wo' _ m) rfl) t₄
    have gfs₅ := p₅.ext _ _ (fun m => fsO (wo' _ m)) gfs
    have hls₅ := (hls₃.step q₄ (by simpa using R107)).step p₅ (fun m => nR (wo' _ m))
    -- stream.read = lambda size: ...
    refine wpAny_execs_cons (plainObj_wpAny_Assign_Attribute (lamMake2 (c := ((c0.plus R).plus fs).wd [some (.str l), some (.ref fs), some (.ref R)]) (clos := [(Str.ofString "rest", La + 1)]) (okF _) rfl st₅.old t₅ (by trivial) (by rfl) (closureFor_of (by rfl)) fun cd ct2 pm2 lam h₆ tk₆ x₆ flam nlam fcd glam rec2 t₆ => ?_) (by rfl))
    have q₆ : Step [107] [] s₅ { s₅ with heap := h₆, toks := tk₆ } := .extBut x₆ (by simp)
    have ow107' : ∀ {ds}, ∀ a ∈ (((c0.plus R).plus fs).wd ds).own, a ∉ [(107 : Addr)] := fun a m z => by rw [List.mem_singleton] at z; exact n107 a m z
    have st₆ := St.step st₅ q₆ (in107 (.tail _ (.tail _ (List.mem_append_right _ (.head _))))) ow107' h0107 (Low.cons t₆ Low.nil)
    have gfs₆ := q₆.ext _ _ (by simpa using nfs) gfs₅
    have hls₆ := hls₅.step q₆ (by simpa using R107)
    refine evRun (c := ((c0.plus R).plus fs).wd [some (.str l), some (.ref fs), some (.ref R)]) (okF _) rm st₆ (Ev.name 1) fun u s₇ p₇ r₇ => ?_
    obtain rfl := r₇.ref_inv
    have st₇ := st₆.pure p₇
    have gfs₇ := p₇.pure _ _ gfs₆
    have glam₇ := p₇.pure _ _ glam
    have rec₇ := rec2.keeps p₇.pure
    have hls₇ := hls₆.step p₇ (by simp)
    have lamfs : lam ≠ fs := fun e => by rw [e, gfs₅] at flam; cases flam
    refine fnSet gfs₇ fun h₈ hsh tkr nn tk₈ x₈ g₈ gd₈ => ?_
    have q₈ : Step [fs] [] s₇ { s₇ with heap := h₈, toks := tk₈ } := .extBut x₈ (by simp)
    have fsd : s₇.heap.get? s₇.heap.objs.size = none := get_size _
    revert gd₈ g₈ fsd
    generalize s₇.heap.objs.size = sd
    intro g₈ gd₈ fsd
    have st₈ := St.step st₇ q₈ (fun a m => by obtain rfl := mem1 m; exact .head _) (fun a m z => by obtain rfl := mem1 z; exact fsO m) (fun a o e z => by obtain rfl := mem1 z; have e' : h₀.get? _ = some o := e; rw [frfs0] at e'; cases e') (Low.cons g₈ Low.nil)
    have glam₈ := q₈.ext _ _ (by simpa using lamfs) glam₇
    have hls₈ := hls₇.step q₈ (by simpa using fsR.symm)
    have cdfs : cd ≠ fs := fun e => by rw [e, gfs₅] at fcd; cases fcd
    have rec₈ := Heap.CodeRec.at rec₇ (fun o e => q₈.ext _ _ (by simpa using cdfs) e)
    -- return _netrclex(stream)
    refine wpAny_execs_cons (wpAny_Return_some (wpAny_Call_ofName (evRun (c := ((c0.plus R).plus fs).wd [some (.str l), some (.ref fs), some (.ref R)]) (okF _) rm st₈ (Ev.global (a := 101)) fun u s₉ p₉ r₉ => ?_)))
    obtain rfl := r₉.ref_inv
    refine callW (c := ((c0.plus R).plus fs).wd [some (.str l), some (.ref fs), some (.ref R)]) (n := n + 2) (okF _) (Kp.fn (okF _) (fun _ => by rfl)) (Evs.cons (Ev.name 1) .nil) rm (st₈.pure p₉) (fun us s₁₀ p₁₀ r₁₀ => ?_) rfl
    rw [RepL.cons_iff] at r₁₀; obtain ⟨y, r', rfl, au, bu⟩ := r₁₀
    rw [RepL.nil_iff] at bu; subst bu
    obtain rfl := au.ref_inv
    have st₁₀ := (st₈.pure p₉).pure p₁₀
    have pA := p₉.trans p₁₀
    have KX := B.K.keeps st₁₀.old
    refine wpAny_call (make_core (h := s₁₀.heap) (g := s₁₀.gens) (d := s₁₀.drawn) (t := s₁₀.toks) (os := s₁₀.os) (C := 101) (init := .ref 77) (makes_of KX (by rfl)) (looks_findIn KX (by rfl)) (fun self => bind_fn KX self (by rfl)) (.inl (by rfl)) ?_)
    have gx : ((s₁₀.heap.push emptyDict).push (instObj 101 s₁₀.heap.objs.size)).get? (s₁₀.heap.objs.size + 1) = some (instObj 101 s₁₀.heap.objs.size) := by heap_get
    have gd : ((s₁₀.heap.push emptyDict).push (instObj 101 s₁₀.heap.objs.size)).get? s₁₀.heap.objs.size = some emptyDict := by heap_get
    have pM : Pure s₁₀ ⟨(s₁₀.heap.push emptyDict).push (instObj 101 s₁₀.heap.objs.size), s₁₀.gens, s₁₀.drawn, s₁₀.toks, s₁₀.os⟩ := .heap (tk := s₁₀.toks) fun b o _ e => Heap.get?_push_of_some _ (Heap.get?_push_of_some _ e)
    have fdx : s₁₀.heap.get? s₁₀.heap.objs.size = none := get_size _
    have fx : s₁₀.heap.get? (s₁₀.heap.objs.size + 1) = none := fresh_ge (Nat.le_succ _)
    have hxd : s₁₀.heap.objs.size + 1 ≠ s₁₀.heap.objs.size := Nat.succ_ne_self _
    revert gx gd pM fdx fx hxd
    generalize hS : (⟨(s₁₀.heap.push emptyDict).push (instObj 101 s₁₀.heap.objs.size), s₁₀.gens, s₁₀.drawn, s₁₀.toks, s₁₀.os⟩ : Shared) = sM
    have hSh : (s₁₀.heap.push emptyDict).push (instObj 101 s₁₀.heap.objs.size) = sM.heap := by rw [← hS]
    rw [hSh]
    clear hSh hS
    generalize s₁₀.heap.objs.size + 1 = x
    generalize s₁₀.heap.objs.size = dx
    intro gx gd pM fdx fx hxd
    have h0fr : ∀ a, s₁₀.heap.get? a = none → h₀.get? a = none := fun a e => by
      cases e' : h₀.get? a with
      | none => rfl
      | some o => have := st₁₀.old _ _ e'; rw [e] at this; cases this
    refine codeAny_mono (lexInit B hn hxd (A.under (.builtin "type.__call__" ⟨[.ref 101, .ref fs], []⟩)) sM (fun v s' => v = .none ∧ Q (.ret (.ref x)) s') (fun e s' => E e s') (rm.under 101 [.ref fs]) (fun b o e => pM.pure _ _ (st₁₀.old b o e)) gx gd (h0fr _ fx) (h0fr _ fdx) ?_) ?_
    · intro s₁₂ pb h1 h2 h3 h4 t1 t2 t3 t4 t5 t6 m p₁₂ fpb hpb hx hd
      refine ⟨rfl, ?_⟩
      have fpb₁₀ := none_of_ext pM fpb
      -- the steps so far, from the frame's start
      have wz : ∀ {ds a}, a ∈ ((c0.plus R).wd ds).wr → a ∈ c0.wr := fun m => m
      have wz' : ∀ {ds a}, a ∈ (((c0.plus R).plus fs).wd ds).wr → a ∈ c0.wr := fun m => m
      have e1 : Step (c0.wr ++ [107]) [] s s₅ := ((((p₁.trans p₂).up.trans (p₃.mono (fun a m => List.mem_append_left _ (wz m)) (by simp))).trans (q₄.mono (fun a m => List.mem_append_right _ m) (by simp)))).trans (p₅.mono (fun a m => List.mem_append_left _ (wz' m)) (by simp))
      have e2 : Step (c0.wr ++ [107]) [] s s₇ := (e1.trans (q₆.mono (fun a m => List.mem_append_right _ m) (by simp))).trans p₇.up
      have low57 : ∀ {s' : Shared}, Low c0.own s'.heap → (∃ o, s'.heap.get? 107 = some o) → Low (c0.wr ++ [107]) s'.heap := fun l1 l2 a m => by
        rcases List.mem_append.mp m with m | m
        · exact l1 a (Cx.wr_own m)
        · obtain rfl := mem1 m; exact l2
      have l3 : Low (c0.wr ++ [107]) s₃.heap := low57 (fun a m => st₃.low a ((okR []).own a m)) ⟨_, h107₃⟩
      have l5 : Low (c0.wr ++ [107]) s₅.heap := low57 (fun a m => st₅.low a ((okF []).own a m)) ⟨_, t₅⟩
      have l7 : Low (c0.wr ++ [107]) s₇.heap := low57 (fun a m => st₇.low a ((okF []).own a m)) ⟨_, p₇.pure _ _ t₆⟩
      have e0 : Step (c0.wr ++ [107]) [] s s₃ := (p₁.trans p₂).up.trans (p₃.mono (fun a m => List.mem_append_left _ (wz m)) (by simp))
      have vfs : s.heap.get? fs = none := none_back e0 l3 ffs
      have nlm : s.heap.get? lam = none := none_back e1 l5 flam
      have ncd : s.heap.get? cd = none := none_back e1 l5 fcd
      have nsd : s.heap.get? sd = none := none_back e2 l7 fsd
      have e8 : ∀ a, s₁₀.heap.get? a = none → s.heap.get? a = none := fun a e => none_back e2 l7 (none_back q₈ (Low.cons g₈ Low.nil) (none_of_ext pA e))
      have nx := e8 x fx
      have nd := e8 dx fdx
      have npb := e8 pb fpb₁₀
      -- all the same, later
      have up : ∀ {a o}, h₈.get? a = some o → s₁₂.heap.get? a = some o := fun {a o} g => p₁₂.ext _ _ (fun m => by
        have g10 := pA.pure _ _ g
        rcases List.mem_cons.mp m with e | m
        · rw [e, fx] at g10; cases g10
        · rw [List.mem_singleton.mp m, fdx] at g10; cases g10) (pM.pure _ _ (pA.pure _ _ g))
      have p812 := (pA.trans pM).up.trans p₁₂
      have hls₁₂ := hls₈.step p812 (fun m => by
        obtain ⟨o, g⟩ := (hls₈.step pA (by simp)).there
        rcases List.mem_cons.mp m with e | m
        · rw [e, fx] at g; cases g
        · rw [List.mem_singleton.mp m, fdx] at g; cases g)
      have cell8 : h₈.IsCell (La + 1) (some (.ref R)) := by
        obtain ⟨ov, hc, hv⟩ := st₈.cells 2 (Str.ofString "rest") (La + 1) rfl
        obtain ⟨v, rfl, r⟩ := hv (.ref R) rfl
        rw [r.ref_inv] at hc; exact hc
      have frS' : s.heap.get? R = none := by
        cases e : s.heap.get? R with
        | none => rfl
        | some o => have := p₁.pure _ _ e; rw [fr] at this; cases this
      have hR12 : ∃ o, s₁₀.heap.get? R = some o := (hls₈.step pA (by simp)).there
      refine k (.ref x) s₁₂ (Step.unseen' (W := [fs, x, dx]) (gs := []) e2 (((q₈.mono (fun a m => List.mem_append_left _ (by obtain rfl := mem1 m; simp)) (by simp)).trans (p812.mono (fun a m => List.mem_append_left _ (.tail _ m)) (by simp)))) (fun a m => by
        rcases memc m with rfl | m
        · exact vfs
        · rcases memc m with rfl | m
          · exact nx
          · obtain rfl := mem1 m; exact nd) (by simp)) ⟨⟨x, dx, fs, sd, lam, La + 1, cd, R, pb⟩, rfl, ?_, ?_, ⟨_, up (q₈.ext _ _ (by simpa using nfs.symm) (p₇.pure _ _ t₆))⟩⟩
      · intro a ha
        simp only [List.mem_append, List.mem_cons, List.not_mem_nil, or_false] at ha
        rcases ha with (e | e | e | e | e | e) | (e | e | e) <;> rw [e]
        · exact none_of_ext p0 nx
        · exact none_of_ext p0 vfs
        · exact none_of_ext p0 nsd
        · exact none_of_ext p0 nlm
        · exact hown _ (.tail _ (.head _))
        · exact none_of_ext p0 ncd
        · exact none_of_ext p0 nd
        · exact frS
        · exact none_of_ext p0 npb
      · obtain ⟨oc, gc, ec⟩ := cell8
        obtain ⟨c', oo, vs, tq, hc, hoc, hdc, hq⟩ := rec₈
        refine ⟨⟨_, hx⟩, ⟨h1, h2, h3, h4, t1, t2, t3, t4, t5, t6, m, ?_⟩, ⟨_, hsh, tkr, nn, _, up g₈, up gd₈⟩, ⟨_, _, up glam₈, rfl, ⟨c', oo, vs, tq, hc, up hoc, hdc, hq⟩, lamC_of B (by rfl)⟩, ⟨oc, up gc, ec⟩, hls₁₂, hpb, ?_, ?_⟩
        · rw [show (1 + (l.count 10 : Int) - l.count 10) = 1 by lia]; exact hd
        · intro e
          obtain ⟨o, g⟩ := hR12
          have e' : R = pb := e
          rw [e', fpb₁₀] at g; cases g
        · intro a ha
          simp only [List.mem_append, List.mem_cons, List.not_mem_nil, or_false] at ha
          have v7 : ∀ a, s.heap.get? a = none → h₀.get? a = none := fun a e => by
            cases e' : h₀.get? a with
            | none => rfl
            | some o => have := st.old _ _ e'; rw [e] at this; cases this
          rcases ha with (e | e | e | e | e | e) | (e | e | e) <;> rw [e]
          · exact v7 _ nx
          · exact v7 _ vfs
          · exact v7 _ nsd
          · exact v7 _ nlm
          · exact ok.new _ (List.mem_append_left _ (.tail _ (.head _)))
          · exact v7 _ ncd
          · exact v7 _ nd
          · exact fr0
          · exact v7 _ npb
    · intro r s' z
      rcases r with e | (v | _ | _ | _) <;> exact z
end
end Mine
end
section
open PySem PySem.W PyProof.Rows
set_option Elab.async false
set_option linter.unusedVariables false
namespace Mine
theorem codeAny_compStart_2 {w : World} {A : Around} {R : Result → Shared → Prop} {s : Shared} {elt : Expr} {g : Comprehension} {target iter : Expr} {ifs : List Expr} {scope : Scope} {pos : Pos} {it acc : Value} {env : Env}
    (h0 : codeAny (model prog w) A (.compLoop (.ListComp elt [g, ⟨target, iter, ifs, 0⟩] scope pos) 1 it acc env) R s)
    (h : wpAny (model prog w) A (pyIter it) (fun it' s' => codeAny (model prog w) A (.compLoop (.ListComp elt [g, ⟨target, iter, ifs, 0⟩] scope pos) 1 it' acc env) R s')
      (notedBy (model prog w) A env fun x s' => R (.error x) s') s) :
    codeAny (model prog w) A (.compStart (.ListComp elt [g, ⟨target, iter, ifs, 0⟩] scope pos) 1 it acc env) R s := by
  refine codeAny_of_tree ?_
  show wpAny _ _ ((compStart (.ListComp elt [g, ⟨target, iter, ifs, 0⟩] scope pos) 1 it acc env).onRaise (fun x => do noteFrame x env; standAt theWindowsPlace)) _ _ s
  refine wpAny_notedAt ?_
  unfold compStart
  show wpAny _ _ (ask >>= _) _ _ s
  refine wpAny_bind (wpAny_askSetting (wpAny_ite ?_))
  split
  · first
      | exact wpAny_bind (wpAny_pure (wpAny_pure (And.intro rfl h0)))
      | exact wpAny_pure (And.intro rfl h0)
  · first
      | exact wpAny_bind (wpAny_rule (wpAny_bind (wpAny_standAt (wpAny_bind (wpAny_mono h (fun it' s' h' => wpAny_pure (And.intro rfl h')) fun _ _ x => x)))))
      | (refine wpAny_bind (wpAny_rule ?_); show wpAny _ _ (standAt iter.pos >>= _) _ _ s; exact wpAny_bind (wpAny_standAt (wpAny_bind (wpAny_mono h (fun it' s' h' => wpAny_pure (And.intro rfl h')) fun _ _ x => x))))
section
variable {n : Nat} {c : Cx} {elt tg iter tg2 iter2 : Expr} {ifs2 : List Expr} {sc : Scope} {pos : Pos} {cl : List (Str × Addr)} {is : List Nat} {fr : List (Str × Option Addr)}
theorem Ev.lc2 {items : List D} (B : D → List D) (F : D → D → Option D) (H : CompOk c sc cl is fr) (hn : 4 ≤ n) (hi : EvI n c iter tg items) (hsz : ∀ k, (((items.take k).map fun d => (B d).filterMap (F d)).flatten).length + (items[k]?.elim 0 fun d => (B d).length) ≤ sizeLine)
    (turn : ∀ (io : List Addr) (N : Addr) (d : D), d ∈ items → ∃ ds1, Asg n ((compCx c sc cl fr N (ds0 c sc is)).lay io) tg d ds1 ∧ Fits ((compCx c sc cl fr N (ds0 c sc is)).lay io).ds ds1 ∧
      EvI n (((compCx c sc cl fr N (ds0 c sc is)).lay io).wd ds1) iter2 tg2 (B d) ∧ ∀ io2 e, e ∈ B d → CTurn n ((((compCx c sc cl fr N (ds0 c sc is)).lay io).wd ds1).lay io2) tg2 ifs2 elt e (F d e))
    (hs : ∀ x, foldedSetIterable iter c.env x = pure x := by intro _; rfl) (hs2 : ∀ env x, foldedSetIterable iter2 env x = pure x := by intro _ _; rfl) :
    Ev n c (.ListComp elt [⟨tg, iter, [], 0⟩, ⟨tg2, iter2, ifs2, 0⟩] sc pos) (.lst ((items.map fun d => (B d).filterMap (F d)).flatten)) := by
  intro ok A s₀ Q E rm st k
  refine comp_begin H ⟨tg, iter, [], 0⟩ [⟨tg2, iter2, ifs2, 0⟩] items ok rm hn st hi (fun it io gs J s₁ s₂ ik BB hJ => ?_) rfl hs
  have nZ : s₁.heap.objs.size ∉ (compCx c sc cl fr s₁.heap.objs.size (ds0 c sc is)).wr := fun m => (BB.wr _ m).2 rfl
  have Zsub : ∀ a ∈ (compCx c sc cl fr s₁.heap.objs.size (ds0 c sc is)).wr, a ∈ (compCx c sc cl fr s₁.heap.objs.size (ds0 c sc is)).X := fun a m => List.mem_append_left _ (BB.wr a m).1
  have Zall : ∀ a ∈ s₁.heap.objs.size :: (compCx c sc cl fr s₁.heap.objs.size (ds0 c sc is)).wr, a ∈ (compCx c sc cl fr s₁.heap.objs.size (ds0 c sc is)).X := fun a m => by
    rcases memc m with rfl | m
    · exact .head _
    · exact Zsub a m
  have ownN : s₁.heap.objs.size ∉ (compCx c sc cl fr s₁.heap.objs.size (ds0 c sc is)).own := fun m => by
    rcases List.mem_cons.mp m with e | m'
    · exact Nat.ne_of_lt (Nat.lt_succ_self _) e
    · have : s₁.heap.objs.size ∈ (scopeVs (s₁.heap.objs.size + 2) sc.names ++ fr).filterMap (·.2) := m'
      rw [List.filterMap_append] at this
      rcases List.mem_append.mp this with z | z
      · obtain ⟨⟨x', o⟩, hx, e⟩ := List.mem_filterMap.mp z
        simp only at e; subst e
        exact absurd (scopeVs_ge hx) (Nat.not_le.mpr (Nat.lt_add_of_pos_right (by decide)))
      · obtain ⟨⟨x', o⟩, hx, e⟩ := List.mem_filterMap.mp z
        simp only at e; subst e
        exact BB.nX _ (.head _) (ok.own _ (H.own hx))
  have h0N : c.h₀.get? s₁.heap.objs.size = none := by
    cases e : c.h₀.get? s₁.heap.objs.size with
    | none => rfl
    | some o =>
      have := st.old _ _ e
      rw [none_of_ext BB.pure1 (BB.news _ (.head _))] at this; cases this
  refine comp_loop (c := compCx c sc cl fr s₁.heap.objs.size (ds0 c sc is)) (n := n) (turn_20 ..) ik items
    s₀ (fun io k s => ∃ vs : List Value, s.heap.PlainList s₁.heap.objs.size vs.toArray ∧ RepL (io ++ (compCx c sc cl fr s₁.heap.objs.size (ds0 c sc is)).X) s.heap (((items.take k).map fun d => (B d).filterMap (F d)).flatten) vs)
    (s₁.heap.objs.size :: (compCx c sc cl fr s₁.heap.objs.size (ds0 c sc is)).wr) BB.ok rm hn BB.st hJ (fun a m => ⟨BB.ioX a m, BB.ioH a m, BB.ioF a m⟩) Zall (fun a e => none_of_ext (BB.pure1.trans BB.pure2) e) ⟨[], BB.res, .nil⟩ ?_ ?_ ?_
  · rintro io io' k s s' hio ⟨vs, pl, re⟩ stp hn' hs'
    refine ⟨vs, pl.at fun o e => stp.ext _ o (fun m => (hio _ m).1 (.head _)) e, ?_⟩
    exact (re.more fun b hb => (List.mem_append.mp hb).elim (fun m => (hn' b m).elim (fun m => .inl (List.mem_append_left _ m)) .inr) fun m => .inl (List.mem_append_right _ m)).extX (stp.ext.mono fun a m => List.mem_append_left _ (hs' a m))
  · rintro io k d s v Kb E' hd hio okL stL ⟨vs, pl, re⟩ stp rv pr kb
    obtain ⟨ds1, ha, hf, hi2, ht⟩ := turn io s₁.heap.objs.size d (List.mem_of_getElem? hd)
    refine ha okL A s v _ _ rm stL rv fun s₃ p₃ st₃ => ?_
    refine wpAny_tests_nil ?_
    rw [if_pos rfl]
    unfold emit2
    refine wpAny_bind ?_
    have ok1 := okL.wd ds1
    refine wpAny_mono (hi2 ok1 A s₃ (fun it2 s₄ => wpAny c.M A (runOwn (.compStart (.ListComp elt [⟨tg, iter, [], 0⟩, ⟨tg2, iter2, ifs2, 0⟩] sc pos) 1 it2 (.ref s₁.heap.objs.size) (compCx c sc cl fr s₁.heap.objs.size (ds0 c sc is)).env) (compCx c sc cl fr s₁.heap.objs.size (ds0 c sc is)).env) (fun _ s₅ => Kb s₅) E' s₄) E' rm st₃ fun it2 io2 gs2 J2 s₄ ik2 p₄ hio2 hgs2 hJ2 => ?_) (fun x s₄ h₄ => ?_) fun _ _ h => h
    · -- the inner loop
      have plen := vs.length
      have take1 : (items.take (k + 1)).map (fun d => (B d).filterMap (F d)) = (items.take k).map (fun d => (B d).filterMap (F d)) ++ [(B d).filterMap (F d)] := by
        rw [List.take_add_one, hd, List.map_append]; rfl
      have subio : ∀ a ∈ io ++ (compCx c sc cl fr s₁.heap.objs.size (ds0 c sc is)).X, a ∈ (((compCx c sc cl fr s₁.heap.objs.size (ds0 c sc is)).lay io).wd ds1).X := fun a m => m
      have low2 := ik2.there hJ2
      have st₄ : St ((((compCx c sc cl fr s₁.heap.objs.size (ds0 c sc is)).lay io).wd ds1).lay io2) s₄ := st₃.enter p₄ hio2 low2
      have new2 : ∀ a ∈ io2, a ∉ (((compCx c sc cl fr s₁.heap.objs.size (ds0 c sc is)).lay io).wd ds1).X ∧ c.h₀.get? a = none ∧ s₃.heap.get? a = none := fun a m => by
        refine ⟨fun q => ?_, ?_, hio2 a m⟩
        · obtain ⟨o, g⟩ := st₃.low a q; rw [hio2 a m] at g; cases g
        · cases e : c.h₀.get? a with
          | none => rfl
          | some o => have := st₃.old _ _ e; rw [hio2 a m] at this; cases this
      have Nio : s₁.heap.objs.size ∉ io := fun m => (hio _ m).1 (.head _)
      have p₃' : Step (s₁.heap.objs.size :: (compCx c sc cl fr s₁.heap.objs.size (ds0 c sc is)).wr) [] s s₃ := p₃.mono (fun a m => .tail _ m) (by simp)
      have pl₃ := pl.at fun o e => p₃.ext _ o nZ e
      have re₃ := re.extX (p₃.ext.mono fun a m => List.mem_append_right _ (Zsub a m))
      have pl₄ := pl₃.at fun o e => p₄.pure _ o e
      have re₄ : RepL (io2 ++ (((compCx c sc cl fr s₁.heap.objs.size (ds0 c sc is)).lay io).wd ds1).X) s₄.heap (((items.take k).map fun d => (B d).filterMap (F d)).flatten) vs := (re₃.more fun b hb => (List.mem_append.mp hb).elim (fun m => .inr (hio2 b m)) .inl).ext p₄.pure
      have inner : codeAny c.M A (.compLoop (.ListComp elt [⟨tg, iter, [], 0⟩, ⟨tg2, iter2, ifs2, 0⟩] sc pos) 1 it2 (.ref s₁.heap.objs.size) (compCx c sc cl fr s₁.heap.objs.size (ds0 c sc is)).env) (fun r s' => match r with | .ok f => Kb s' | .error e => cameBackBy c.M A (compCx c sc cl fr s₁.heap.objs.size (ds0 c sc is)).env E' e s') s₄ := by
        refine comp_loop (c := ((compCx c sc cl fr s₁.heap.objs.size (ds0 c sc is)).lay io).wd ds1) (n := n) (turn_21 ..) ik2 (B d) s₃
          (fun io2 j s => ∃ vs : List Value, s.heap.PlainList s₁.heap.objs.size vs.toArray ∧ RepL (io2 ++ (((compCx c sc cl fr s₁.heap.objs.size (ds0 c sc is)).lay io).wd ds1).X) s.heap (((items.take k).map fun d => (B d).filterMap (F d)).flatten ++ ((B d).take j).filterMap (F d)) vs)
          (s₁.heap.objs.size :: (compCx c sc cl fr s₁.heap.objs.size (ds0 c sc is)).wr) ok1 rm hn st₄ hJ2 new2 (fun a m => List.mem_append_right _ (Zall a m)) (fun a e => none_of_ext p₄ e) ⟨vs, pl₄, by simpa using re₄⟩ ?_ ?_ ?_
        · rintro io io' k s s' hio ⟨vs, pl, re⟩ stp hn' hs'
          refine ⟨vs, pl.at fun o e => stp.ext _ o (fun m => (hio _ m).1 (List.mem_append_right _ (.head _))) e, ?_⟩
          exact (re.more fun b hb => (List.mem_append.mp hb).elim (fun m => (hn' b m).elim (fun m => .inl (List.mem_append_left _ m)) .inr) fun m => .inl (List.mem_append_right _ m)).extX (stp.ext.mono fun a m => List.mem_append_left _ (hs' a m))
        · rintro io2 j e s v Kb2 E2 he hio2' okL2 stL2 ⟨vs2, pl2, re2⟩ stp2 rv2 pr2 kb2
          have lenj : vs2.toArray.size ≤ sizeLine := by
            rw [List.size_toArray, re2.length, List.length_append]
            refine Nat.le_trans (Nat.add_le_add_left (Nat.le_trans (List.length_filterMap_le _ _) (by rw [List.length_take]; exact Nat.min_le_right _ _)) _) (Nat.le_trans ?_ (hsz k))
            rw [hd]; exact Nat.le_refl _
          have tkj : ((B d).take (j + 1)).filterMap (F d) = ((B d).take j).filterMap (F d) ++ (F d e).toList := by
            rw [List.take_add_one, he, List.filterMap_append]
            congr 1
          have sub2 : ∀ a ∈ (compCx c sc cl fr s₁.heap.objs.size (ds0 c sc is)).wr, a ∈ io2 ++ (((compCx c sc cl fr s₁.heap.objs.size (ds0 c sc is)).lay io).wd ds1).X := fun a m => List.mem_append_right _ (List.mem_append_right _ (Zsub a m))
          refine wpAny_mono ((ht io2 e (List.mem_of_getElem? he)).run okL2 rm stL2 rv2 (Kn := Kb2) (Ke := fun x s₄ => wpAny c.M A (PySem.call (.builtin "list.append") [.ref s₁.heap.objs.size, x]) (fun _ s₅ => Kb2 s₅) E2 s₄) (fun s' e' st' p' => ?_) fun x xv s' e' st' p' rx => ?_)
            (fun _ s₂ h₂ => wpAny_mono h₂ (fun b s₃ h₃ => ?_) fun _ _ h => h) fun _ _ h => h
          · refine kb2 s' st' (p'.mono (fun a m => .tail _ m) (by simp)) ⟨vs2, pl2.at fun o g => p'.ext _ o nZ g, ?_⟩
            rw [tkj, e', Option.toList_none, List.append_nil]
            exact re2.extX (p'.ext.mono fun a m => sub2 a m)
          · refine wpAny_list_append_plain (pl2.at fun o g => p'.ext _ o nZ g) (fun h' pl' hs' => ?_) lenj
            have q : Step [s₁.heap.objs.size] [] s' { s' with heap := h' } := Step.but (tk := s'.toks) hs' (by simp)
            have subN : ∀ a ∈ [s₁.heap.objs.size], a ∈ io2 ++ (((compCx c sc cl fr s₁.heap.objs.size (ds0 c sc is)).lay io).wd ds1).X := fun a m => by
              obtain rfl := mem1 m
              exact List.mem_append_right _ (List.mem_append_right _ (.head _))
            refine kb2 _ (st'.step q subN (fun a m z => by obtain rfl := mem1 z; exact ownN m) (fun a o g z => by obtain rfl := mem1 z; have g' : c.h₀.get? _ = some o := g; rw [h0N] at g'; cases g') ?_) ((p'.mono (fun a m => .tail _ m) (by simp)).trans (q.mono (fun a m => by obtain rfl := mem1 m; exact .head _) (by simp))) ⟨vs2 ++ [xv], by simpa using pl', ?_⟩
            · obtain ⟨m, g⟩ := pl'
              exact Low.cons g Low.nil
            · rw [tkj, e', Option.toList_some]
              have rr := RepL.append ((re2.extX (p'.ext.mono fun a m => sub2 a m)).extX (q.ext.mono subN)) (.cons (rx.extX (q.ext.mono subN)) .nil)
              rw [List.append_assoc] at rr
              exact rr
          · cases b with
            | false => exact h₃
            | true =>
              simp only [if_true] at h₃ ⊢
              unfold emit1
              exact wpAny_bind (wpAny_bind (wpAny_mono h₃ (fun x s₄ h₄ => wpAny_bind (wpAny_mono h₄ (fun _ s₅ h₅ => wpAny_pure (wpAny_pure ⟨rfl, h₅⟩)) fun _ _ h => h)) fun _ _ h => h))
        · rintro io2' s' hio2' st' ⟨vs2, pl2, re2⟩ stp2
          show Kb s'
          refine kb s' (St.fit (c := (compCx c sc cl fr s₁.heap.objs.size (ds0 c sc is)).lay io) st' hf) (Step.unseen' (W := io2') (gs := gs2) (p₃'.trans p₄.up) (stp2.mono (fun a m => (List.mem_append.mp m).elim (fun m => List.mem_append_right _ m) fun m => List.mem_append_left _ m) (fun _ h => h)) (fun a m => ?_) (fun g m => ?_)) ⟨vs2, pl2, ?_⟩
          · have := (hio2' a m).2.2
            cases e : s.heap.get? a with
            | none => rfl
            | some o =>
              by_cases q : a ∈ (compCx c sc cl fr s₁.heap.objs.size (ds0 c sc is)).wr
              · exact absurd (List.mem_append_right io (Zsub a q)) (hio2' a m).1
              · rw [p₃.ext _ _ q e] at this; cases this
          · cases e : s.gens[g]? with
            | none => rfl
            | some o => have := p₃.gen g o (by simp) e; rw [hgs2 g m] at this; cases this
          · rw [take1, List.flatten_append, List.flatten_singleton]
            have := re2.less (Y := io ++ (compCx c sc cl fr s₁.heap.objs.size (ds0 c sc is)).X) (fun a m => List.mem_append_right _ m)
            rwa [List.take_length] at this
      exact wpAny_runOwn (codeAny_compStart_2 inner (ik2.self hJ2 (rm.less (by lia)) inner))
    · refine wpAny_bind (wpAny_standAt ?_)
      refine wpAny_bind (wpAny_of_eq (hs2 _ x) ?_)
      refine wpAny_bind (wpAny_holding (wpAny_mono h₄ (fun it2 s₅ h₅ => wpAny_bind (wpAny_mono h₅ (fun _ s₆ h₆ => wpAny_pure ⟨rfl, h₆⟩) fun _ _ h => h)) fun _ _ h => h))
  · rintro io s' hio st' ⟨vs, pl, re⟩ stp
    refine comp_end (Y := []) BB hio ok st (by simp) (by simp) st' ⟨vs, pl, re⟩ (stp.mono (fun a m => by
      rcases List.mem_append.mp m with m | m
      · rcases memc m with rfl | m
        · exact List.mem_append_left _ (.head _)
        · exact List.mem_append_left _ (.tail _ (List.mem_append_left _ m))
      · exact List.mem_append_right _ m) (fun _ h => h)) fun v s'' p'' st'' q'' r'' => k v s'' p'' ?_
    rwa [List.take_length] at r''
end
end Mine
end
section
open PySem PySem.W PyProof.Rows
set_option Elab.async false
set_option linter.unusedVariables false
namespace Mine
section
variable {n : Nat} {c : Cx} {elt tg iter : Expr} {ifs : List Expr} {sc : Scope} {pos : Pos} {cl : List (Str × Addr)} {is : List Nat} {fr : List (Str × Option Addr)} {A : Around} {s₀ : Shared} {E : Value → Shared → Prop}
theorem comp_beginU (u : Value → Sem Unit) (H : CompOk c sc cl is fr) (g : Comprehension) (gens : List Comprehension) (items : List D) (ok : Ok c) (rm : Rm n A) (hn : 4 ≤ n) (st : St c s₀) (hi : EvI n c g.iter g.target items) {Q : Value → Shared → Prop}
    (k : ∀ (it : Value) (io : List Addr) (gs : List Nat) (J : List Addr → List Addr → List D → Shared → Prop) (s₁ s₂ : Shared), ItK c.w c.h₀ A g.target gs it J → CompIn c sc cl is fr io gs s₀ s₁ s₂ → J io (io ++ (compCx c sc cl fr s₁.heap.objs.size (ds0 c sc is)).X) items s₂ →
      codeAny c.M A (.compLoop (.ListComp elt (g :: gens) sc pos) 0 it (.ref s₁.heap.objs.size) (compCx c sc cl fr s₁.heap.objs.size (ds0 c sc is)).env) (compPost c.M A E (some u) Q (.ref s₁.heap.objs.size) (s₁.heap.objs.size + 1)) s₂)
    (hg : g.is_async = 0 := by rfl) (hs : ∀ x, foldedSetIterable g.iter c.env x = pure x := by intro _; rfl) :
    wpAny c.M A (comprehension (.ListComp elt (g :: gens) sc pos) sc c.env (firstIterPos (g :: gens) pos) (newList []) (firstAsync (g :: gens)) (firstIter (g :: gens) c.env) (some u)) Q E s₀ := by
  obtain ⟨tg, iter, ifs, as⟩ := g
  simp only at hg hs hi
  subst hg
  refine wpAny_comprehension_free (use := some u) rfl hs (closureFor_of H.hcl) H.kind (fun x hx e => ?_) ?_
  · obtain ⟨y, kd⟩ := x
    simp only at e
    subst e
    exact lookup_of_mem' H.nd hx
  refine hi ok A s₀ _ _ rm st fun it io gs J s₁ ik p₁ hio hgs hJ => ?_
  have st₁ := st.pure p₁
  obtain ⟨okc, stc⟩ := comp_enter H ok st₁ (tk := s₁.toks)
  refine wpAny_newObj_type (wpAny_newEnvComp ?_)
  dsimp only
  rw [Heap.size_push]
  have up : ∀ a o, s₁.heap.get? a = some o → (pushCells ((s₁.heap.push { cls := .type "list", data := .seq ([] : List Value).toArray }).push { cls := .type "dict", data := .dict #[] }) sc.names).get? a = some o :=
    fun a o e => pushCells_keeps _ _ _ _ (Heap.get?_push_of_some _ (Heap.get?_push_of_some _ e))
  have p₂ : Pure s₁ { s₁ with heap := pushCells ((s₁.heap.push { cls := .type "list", data := .seq ([] : List Value).toArray }).push { cls := .type "dict", data := .dict #[] }) sc.names, toks := s₁.toks } := .heap fun b o _ e => up b o e
  have ioL := ik.there hJ
  have ioN : ∀ a ∈ io, ∀ b, s₁.heap.objs.size ≤ b → a ≠ b := fun a m b hb e => by
    obtain ⟨o, g⟩ := ioL a m
    have := Heap.lt_size g
    rw [e] at this
    exact absurd this (Nat.not_lt.mpr hb)
  have ioc : ∀ a ∈ io, a ∉ c.X := fun a m q => by obtain ⟨o, e⟩ := st.low a q; rw [hio a m] at e; cases e
  have ioX : ∀ a ∈ io, a ∉ (compCx c sc cl fr s₁.heap.objs.size (ds0 c sc is)).X := fun a m q => by
    rcases List.mem_append.mp q with q | q
    · exact ioN a m a (compNew_ge q) rfl
    · exact ioc a m q
  have ioH : ∀ a ∈ io, c.h₀.get? a = none := fun a m => by
    cases e : c.h₀.get? a with
    | none => rfl
    | some o => have := st.old _ _ e; rw [hio a m] at this; cases this
  have nX : ∀ a ∈ compNew sc s₁.heap.objs.size, a ∉ c.X := fun a m q => by
    obtain ⟨o, e⟩ := st₁.low a q
    rw [fresh_ge (compNew_ge m)] at e; cases e
  have stL : St ((compCx c sc cl fr s₁.heap.objs.size (ds0 c sc is)).lay io) { s₁ with heap := pushCells ((s₁.heap.push { cls := .type "list", data := .seq ([] : List Value).toArray }).push { cls := .type "dict", data := .dict #[] }) sc.names, toks := s₁.toks } := by
    have up' := p₂
    refine ⟨stc.old, fun a m => (List.mem_append.mp m).elim (fun m => ?_) (stc.low a), stc.len, ?_, ?_⟩
    · obtain ⟨o, e⟩ := ioL a m; exact ⟨o, up _ _ e⟩
    · obtain ⟨m, hm, h⟩ := stc.ns
      refine ⟨m, hm, fun i x d e1 e2 => ?_⟩
      exfalso
      have hl : (scopeVs 0 sc.names).length = (scopeVs (s₁.heap.objs.size + 2) sc.names).length := by
        have h2 := congrArg List.length (scopeVs_map (fun y => y) sc.names 0 (s₁.heap.objs.size + 2))
        simpa only [List.length_map] using h2
      rcases Nat.lt_or_ge i (scopeVs (s₁.heap.objs.size + 2) sc.names).length with hi | hi
      · have e2' : ((scopeVs 0 sc.names).map (fun _ => (none : Option D)) ++ is.map fun i => (c.ds[i]?).getD none)[i]? = some (some d) := e2
        rw [List.getElem?_append_left (by rw [List.length_map]; lia), List.getElem?_map] at e2'
        cases q : (scopeVs 0 sc.names)[i]? <;> rw [q] at e2' <;> cases e2'
      · have e1' : (scopeVs (s₁.heap.objs.size + 2) sc.names ++ fr)[i]? = some (x, none) := e1
        rw [List.getElem?_append_right hi] at e1'
        obtain ⟨_, e, _⟩ := H.hfr.mem _ (List.mem_of_getElem? e1'); cases e
    · intro i x a e1
      obtain ⟨ov, hc, h⟩ := stc.cells i x a e1
      refine ⟨ov, hc, fun d e2 => ?_⟩
      have hl : (scopeVs 0 sc.names).length = (scopeVs (s₁.heap.objs.size + 2) sc.names).length := by
        have h2 := congrArg List.length (scopeVs_map (fun y => y) sc.names 0 (s₁.heap.objs.size + 2))
        simpa only [List.length_map] using h2
      have e1' : (scopeVs (s₁.heap.objs.size + 2) sc.names ++ fr)[i]? = some (x, some a) := e1
      have e2' : ((scopeVs 0 sc.names).map (fun _ => (none : Option D)) ++ is.map fun i => (c.ds[i]?).getD none)[i]? = some (some d) := e2
      rcases Nat.lt_or_ge i (scopeVs (s₁.heap.objs.size + 2) sc.names).length with hi | hi
      · rw [List.getElem?_append_left (by rw [List.length_map]; lia), List.getElem?_map] at e2'
        cases q : (scopeVs 0 sc.names)[i]? <;> rw [q] at e2' <;> cases e2'
      · rw [List.getElem?_append_right hi] at e1'
        obtain ⟨i', q1, q2⟩ := H.get e1'
        rw [List.getElem?_append_right (by rw [List.length_map]; lia), List.getElem?_map, List.length_map, hl, q1] at e2'
        obtain ⟨ov0, ⟨o0, g0, hd0⟩, hv0⟩ := st.cells i' x a q2
        obtain ⟨o, g, hd⟩ := hc
        have : o = o0 := Option.some.inj (g.symm.trans (p₂.pure _ _ (p₁.pure _ _ g0)))
        subst this
        rw [hd0] at hd
        have : ov0 = ov := by cases hd; rfl
        subst this
        cases q : c.ds[i']? with
        | none => simp [q] at e2'
        | some od =>
          simp [q] at e2'
          subst e2'
          obtain ⟨v, hv1, hv2⟩ := hv0 d q
          refine ⟨v, hv1, (hv2.more fun b hb => ?_).ext ((p₁.trans p₂).pure)⟩
          rcases List.mem_append.mp hb with hb | hb
          · exact .inr (hio b hb)
          · rcases List.mem_append.mp hb with hb | hb
            · exact .inr (none_of_ext p₁ (fresh_ge (compNew_ge hb)))
            · exact .inl hb
  have frl : ∀ x a, (x, some a) ∈ fr → a < s₁.heap.objs.size := fun x a m => by
    obtain ⟨i, e⟩ := H.old m
    obtain ⟨ov, ⟨o, g, _⟩, _⟩ := st₁.cells i x a e
    exact Heap.lt_size g
  have hJ' : J io (io ++ (compCx c sc cl fr s₁.heap.objs.size (ds0 c sc is)).X) items { s₁ with heap := pushCells ((s₁.heap.push { cls := .type "list", data := .seq ([] : List Value).toArray }).push { cls := .type "dict", data := .dict #[] }) sc.names, toks := s₁.toks } := by
    refine ik.keep (ik.more hJ fun b hb => ?_) p₂ (by simp) (by simp) (by simp)
    rcases List.mem_append.mp hb with hb | hb
    · exact .inl (List.mem_append_left _ hb)
    · rcases List.mem_append.mp hb with hb | hb
      · exact .inr (fresh_ge (compNew_ge hb))
      · exact .inl (List.mem_append_right _ hb)
  have go := k it io gs J s₁ _ ik ⟨p₁, p₂, hio, ioX, ioH, hgs, fun a m => fresh_ge (compNew_ge m), nX, okc, stL, ⟨_, pushCells_keeps _ _ _ _ (Heap.get?_push_of_some _ (Heap.get?_push_size _ rfl))⟩, fun a m => compCx_wr H frl m⟩ hJ'
  exact codeAny_compStart_list go (ik.self hJ' (rm.less (by lia)) go)


theorem sAssignU {items : List D} (F : D → Option D) {Q : Flow → Shared → Prop} {rest : List Stmt} {x : Str} {p spos : Pos} {ds' : List (Option D)} {w' : World} {env' : Env} (i : Nat) {sl} (ok : Ok c) (rm : Rm n A) (hn : 4 ≤ n) (st : St c s₀) (H : CompOk c sc cl is fr) (hi : EvI n c iter tg items) (hsz : items.length ≤ sizeLine)
    (turn : ∀ (io : List Addr) (N : Addr) (d : D), d ∈ items → CTurn n ((compCx c sc cl fr N (ds0 c sc is)).lay io) tg ifs elt d (F d))
    (k : ∀ s', Step c.wr [] s₀ s' → St (c.wd ds') s' → wpAny (model prog w') A (execs rest env') Q E s') (hv : c.vs[i]? = some (x, sl) := by rfl) (hd : c.ds.set i (some (.lst (items.filterMap F))) = ds' := by rfl)
    (hk : sl = none ∨ c.env.kindOf x = some .cell := by first | exact .inl rfl | exact .inr rfl) (hle : ∀ a, sl = some a → c.env.locals ≤ a := by intro a h; cases h <;> repeat (first | exact Nat.le_refl _ | apply Nat.le_succ_of_le))
    (hsw : swapsWith (.ListComp elt [⟨tg, iter, ifs, 0⟩] sc pos) (some (.Name x p)) spos.line c.env = pure true := by rfl) (hs : ∀ x, foldedSetIterable iter c.env x = pure x := by intro _; rfl) (he' : env' = c.env := by rfl) (hw' : w' = c.w := by rfl) :
    wpAny (model prog w') A (execs (.Assign [.Name x p] (.ListComp elt [⟨tg, iter, ifs, 0⟩] sc pos) spos :: rest) env') Q E s₀ := by
  subst he' hw' hd
  refine wpAny_execs_cons ?_
  rw [exec_Assign_Name_used x p _ spos hsw]
  refine wpAny_bind (wpAny_standAt ?_)
  refine wpAny_bind ?_
  show wpAny _ _ (do let _ ← comprehension (.ListComp elt [⟨tg, iter, ifs, 0⟩] sc pos) sc c.env (firstIterPos [⟨tg, iter, ifs, 0⟩] pos) (newList []) (firstAsync [⟨tg, iter, ifs, 0⟩]) (firstIter [⟨tg, iter, ifs, 0⟩] c.env) (some (assign (.Name x p) c.env))) _ _ _
  refine wpAny_bind (comp_beginU (n := n) (A := A) (E := E) (assign (.Name x p) c.env) H ⟨tg, iter, ifs, 0⟩ [] items ok rm hn st hi (fun it io gs J s₁ s₂ ik B hJ => ?_) rfl hs)
  have nZ : s₁.heap.objs.size ∉ (compCx c sc cl fr s₁.heap.objs.size (ds0 c sc is)).wr := fun m => (B.wr _ m).2 rfl
  have Zsub : ∀ a ∈ (compCx c sc cl fr s₁.heap.objs.size (ds0 c sc is)).wr, a ∈ (compCx c sc cl fr s₁.heap.objs.size (ds0 c sc is)).X := fun a m => List.mem_append_left _ (B.wr a m).1
  have Zall : ∀ a ∈ s₁.heap.objs.size :: (compCx c sc cl fr s₁.heap.objs.size (ds0 c sc is)).wr, a ∈ (compCx c sc cl fr s₁.heap.objs.size (ds0 c sc is)).X := fun a m => by
    rcases memc m with rfl | m
    · exact .head _
    · exact Zsub a m
  have ownN : s₁.heap.objs.size ∉ (compCx c sc cl fr s₁.heap.objs.size (ds0 c sc is)).own := fun m => by
    rcases List.mem_cons.mp m with e | m'
    · exact Nat.ne_of_lt (Nat.lt_succ_self _) e
    · have : s₁.heap.objs.size ∈ (scopeVs (s₁.heap.objs.size + 2) sc.names ++ fr).filterMap (·.2) := m'
      rw [List.filterMap_append] at this
      rcases List.mem_append.mp this with z | z
      · obtain ⟨⟨x', o⟩, hx, e⟩ := List.mem_filterMap.mp z
        simp only at e; subst e
        exact absurd (scopeVs_ge hx) (Nat.not_le.mpr (Nat.lt_add_of_pos_right (by decide)))
      · obtain ⟨⟨x', o⟩, hx, e⟩ := List.mem_filterMap.mp z
        simp only at e; subst e
        exact B.nX _ (.head _) (ok.own _ (H.own hx))
  have h0N : c.h₀.get? s₁.heap.objs.size = none := by
    cases e : c.h₀.get? s₁.heap.objs.size with
    | none => rfl
    | some o =>
      have := st.old _ _ e
      rw [none_of_ext B.pure1 (B.news _ (.head _))] at this; cases this
  refine comp_loop (c := compCx c sc cl fr s₁.heap.objs.size (ds0 c sc is)) (n := n) (turn_1 ..) ik items
    s₀ (fun io k s => ∃ vs : List Value, s.heap.PlainList s₁.heap.objs.size vs.toArray ∧ RepL (io ++ (compCx c sc cl fr s₁.heap.objs.size (ds0 c sc is)).X) s.heap ((items.take k).filterMap F) vs)
    (s₁.heap.objs.size :: (compCx c sc cl fr s₁.heap.objs.size (ds0 c sc is)).wr) B.ok rm hn B.st hJ (fun a m => ⟨B.ioX a m, B.ioH a m, B.ioF a m⟩) Zall (fun a e => none_of_ext (B.pure1.trans B.pure2) e) ⟨[], B.res, .nil⟩ ?_ ?_ ?_
  · rintro io io' k s s' hio ⟨vs, pl, re⟩ stp hn' hs'
    refine ⟨vs, pl.at fun o e => stp.ext _ o (fun m => (hio _ m).1 (.head _)) e, ?_⟩
    exact (re.more fun b hb => (List.mem_append.mp hb).elim (fun m => (hn' b m).elim (fun m => .inl (List.mem_append_left _ m)) .inr) fun m => .inl (List.mem_append_right _ m)).extX (stp.ext.mono fun a m => List.mem_append_left _ (hs' a m))
  · rintro io k d s v Kb E' hd hio okL stL ⟨vs, pl, re⟩ stp rv pr kb
    have tk : (items.take (k + 1)).filterMap F = (items.take k).filterMap F ++ (F d).toList := by
      rw [List.take_add_one, hd, List.filterMap_append]
      congr 1
    have lenk : vs.toArray.size ≤ sizeLine := by
      rw [List.size_toArray, re.length]
      exact Nat.le_trans (List.length_filterMap_le _ _) (Nat.le_trans (by rw [List.length_take]; exact Nat.min_le_right _ _) hsz)
    refine wpAny_mono ((turn io s₁.heap.objs.size d (List.mem_of_getElem? hd)).run okL rm stL rv (Kn := Kb) (Ke := fun x s₄ => wpAny c.M A (call (.builtin "list.append") [.ref s₁.heap.objs.size, x]) (fun _ s₅ => Kb s₅) E' s₄) (fun s' hR st' p' => ?_) fun x xv s' hR st' p' rx => ?_)
      (fun _ s₂ h₂ => wpAny_mono h₂ (fun b s₃ h₃ => ?_) fun _ _ h => h) fun _ _ h => h
    · refine kb s' st' (p'.mono (fun a m => .tail _ m) (by simp)) ⟨vs, pl.at fun o e => p'.ext _ o nZ e, ?_⟩
      rw [tk, hR, Option.toList_none, List.append_nil]
      exact re.extX (p'.ext.mono fun a m => List.mem_append_right _ (Zsub a m))
    · refine wpAny_list_append_plain (pl.at fun o e => p'.ext _ o nZ e) (fun h' pl' hs' => ?_) lenk
      have q : Step [s₁.heap.objs.size] [] s' { s' with heap := h' } := Step.but (tk := s'.toks) hs' (by simp)
      have subN : ∀ a ∈ [s₁.heap.objs.size], a ∈ io ++ (compCx c sc cl fr s₁.heap.objs.size (ds0 c sc is)).X := fun a m => by
        obtain rfl := mem1 m
        exact List.mem_append_right _ (.head _)
      refine kb _ (st'.step q subN (fun a m z => by obtain rfl := mem1 z; exact ownN m) (fun a o g z => by obtain rfl := mem1 z; have g' : c.h₀.get? _ = some o := g; rw [h0N] at g'; cases g') ?_) ((p'.mono (fun a m => .tail _ m) (by simp)).trans (q.mono (fun a m => by obtain rfl := mem1 m; exact .head _) (by simp))) ⟨vs ++ [xv], by simpa using pl', ?_⟩
      · obtain ⟨m, g⟩ := pl'
        exact Low.cons g Low.nil
      · rw [tk, hR, Option.toList_some]
        exact RepL.append ((re.extX (p'.ext.mono fun a m => List.mem_append_right _ (Zsub a m))).extX (q.ext.mono subN)) (.cons (rx.extX (q.ext.mono subN)) .nil)
    · cases b with
      | false => exact h₃
      | true =>
        simp only [if_true] at h₃ ⊢
        unfold emit1
        exact wpAny_bind (wpAny_bind (wpAny_mono h₃ (fun x s₄ h₄ => wpAny_bind (wpAny_mono h₄ (fun _ s₅ h₅ => wpAny_pure (wpAny_pure ⟨rfl, h₅⟩)) fun _ _ h => h)) fun _ _ h => h))
  · rintro io s' hio stL ⟨vs, pl, re⟩ stp
    rw [List.take_length] at re
    show wpAny c.M A (assign (.Name x p) c.env (.ref s₁.heap.objs.size)) _ E s'
    have tot : Step [] [] s₀ s' := by
      refine Step.unseen' (W := io ++ compNew sc s₁.heap.objs.size) (gs := gs) ((B.pure1.trans B.pure2).up) (stp.mono (fun a m => ?_) (fun _ h => h)) (fun a m => ?_) B.gsF
      · rcases List.mem_append.mp m with m | m
        · rcases memc m with rfl | m
          · exact List.mem_append_left _ (List.mem_append_right _ (.head _))
          · exact List.mem_append_left _ (List.mem_append_right _ (B.wr a m).1)
        · exact List.mem_append_left _ (List.mem_append_left _ m)
      · rcases List.mem_append.mp m with m | m
        · exact (hio a m).2.2
        · exact none_of_ext B.pure1 (B.news a m)
    obtain ⟨m, hm, _⟩ := stL.ns
    have fC : s₀.heap.get? (s₁.heap.objs.size + 1) = none := none_of_ext B.pure1 (B.news _ (.tail _ (.head _)))
    have hC : c.h₀.get? (s₁.heap.objs.size + 1) = none := by
      cases e : c.h₀.get? (s₁.heap.objs.size + 1) with
      | none => rfl
      | some o => have := st.old _ _ e; rw [fC] at this; cases this
    have stc := st.plus tot fC (let ⟨o, es, ep, g, _⟩ := hm; ⟨o, g⟩)
    have okC := ok.plus hC
    have rl : Rep (c.plus (s₁.heap.objs.size + 1)).X s'.heap (.lst (items.filterMap F)) (.ref s₁.heap.objs.size) := Rep.lst' (fun q => by
      rcases List.mem_cons.mp q with e | q
      · exact Nat.ne_of_lt (Nat.lt_succ_self _) e
      · exact B.nX _ (.head _) q) pl (re.less fun a m => by
      rcases memc m with rfl | m
      · exact List.mem_append_right _ (List.mem_append_left _ (.tail _ (.head _)))
      · exact List.mem_append_right _ (List.mem_append_right _ m))
    refine wpAny_assign_Name (store (c := c.plus (s₁.heap.objs.size + 1)) i hv okC stc rl hk hle fun s₃ p₃ st₃ => ?_)
    have nC : s₁.heap.objs.size + 1 ∉ c.X := B.nX _ (.tail _ (.head _))
    refine ⟨m, hm.at' fun o e => p₃.ext _ o (fun z => nC (ok.wr _ z)) e, fun h' hs => ?_⟩
    have q : Step [s₁.heap.objs.size + 1] [] s₃ { s₃ with heap := h' } := Step.but (tk := s₃.toks) hs (by simp)
    have fin : Step c.wr [] s₀ { s₃ with heap := h' } := Step.unseen' (W := [s₁.heap.objs.size + 1]) (gs := []) (tot.up.trans p₃) (q.mono (fun a m => List.mem_append_left _ m) (by simp)) (fun a m => by obtain rfl := mem1 m; exact fC) (by simp)
    have stq : St (c.wd (c.ds.set i (some (.lst (items.filterMap F))))) { s₃ with heap := h' } :=
      St.leave (c := c.wd (c.ds.set i (some (.lst (items.filterMap F))))) (io := [s₁.heap.objs.size + 1]) (ok.wd _) st₃ q (fun a m => by obtain rfl := mem1 m; exact nC) (fun a m => by obtain rfl := mem1 m; exact hC)
    refine wpAny_pure ?_
    exact wpAny_pure (k _ fin stq)
end
end Mine
end
section
open PySem PySem.W PyProof.Rows
set_option Elab.async false
set_option linter.unusedVariables false
set_option maxRecDepth 100000
set_option pp.deepTerms false
set_option pp.deepTerms.threshold 4
namespace Mine
section
variable {n : Nat} {c : Cx} {A : Around} {s : Shared} {E : Value → Shared → Prop} {Q : Flow → Shared → Prop} {x : Str} {w' : World} {env' : Env} {rest : List Stmt} {pos p2 p3 : Pos} {xa dx : Addr} {es : List DictEntry} {m : Nat} {name : Str} {e : Expr}
/-- self.name = e, the name being new -/
theorem sSetAC {C : Addr} (i : Nat) {sl'} (ok : Ok c) (rm : Rm n A) (st : St c s) (hx : s.heap.get? xa = some (instObj C dx)) (hd : s.heap.get? dx = some (dictOf es m)) (hdx : dx ∈ c.X) (hdo : dx ∉ c.own) (hne : xa ≠ dx) {P : Value → Shared → Prop}
    (he : ∀ (Q : Value → Shared → Prop) E, (∀ v s', Pure s s' → P v s' → Q v s') → wpAny c.M A (eval e c.env) Q E s)
    (k : ∀ v s₁ s' H tk m', P v s₁ → Pure s s₁ → Step [dx] [] s₁ s' → St c s' → s'.heap.get? xa = some (instObj C dx) → s'.heap.get? dx = some (dictOf (es ++ [⟨H, .str name tk, v⟩]) m') → wpAny (model prog w') A (execs rest env') Q E s')
    (hput : ∀ H key v, putL name H key v es = es ++ [⟨H, key, v⟩]) (hl : (getL name es).isSome = true) (hz : es.length ≤ 10)
    (ha : ∀ w, findIn (KF w) (.ref C) "__setattr__" = some (some (.builtin "object.__setattr__"))) (hpl : ∀ w, plainOver (KF w) C = true) (hhd : ∀ w, hasDictIn (KF w) C = true)
    (ht : ∀ w, takerIn (KF w) C name = some none := by intro _; rfl)
    (hi : c.vs[i]? = some (x, sl') := by rfl) (hdi : c.ds[i]? = some (some (.ref xa)) := by rfl) (hx1 : (x == ("__debug__" : Str)) = false := by rfl) (hc : (x == ("__classdict__" : Str)) = false := by rfl)
    (hsw : swapsWith e (some (.Attribute (.Name x p2) name p3)) pos.line c.env = pure false := by rfl) (he' : env' = c.env := by rfl) (hw' : w' = c.w := by rfl) :
    wpAny (model prog w') A (execs (.Assign [.Attribute (.Name x p2) name p3] e pos :: rest) env') Q E s := by
  subst he' hw'
  refine wpAny_execs_cons (plainObj_wpAny_Assign_Attribute (he _ _ fun v s₁ p₁ hv => ?_) hsw)
  have st₁ := st.pure p₁
  refine evRun ok rm st₁ (Ev.name i hi hdi hx1 hc) fun u s₂ p₂ r₂ => ?_
  rw [r₂.ref_inv]
  have st₂ := st₁.pure p₂
  have hx₂ := p₂.pure _ _ (p₁.pure _ _ hx)
  have hd₂ := p₂.pure _ _ (p₁.pure _ _ hd)
  refine setA (C := C) (K := KF c.w) (ok.base.K.keeps st₂.old) hd₂ ⟨hx₂, rfl, rfl, hd₂⟩ rfl (ha _) (hpl _) (ht _) (hhd _) hl (es' := es ++ [⟨PyData.keyHash c.w.params name, .str name (s₂.toks + 1), v⟩]) (n' := putN name es m) (by rw [hput]) (by rw [List.length_append, List.length_singleton]; lia) fun h' hs hD => ?_
  have pp : Step [dx] [] s₂ { s₂ with heap := h', toks := s₂.toks + 2 } := .but hs (by simp)
  exact k v s₁ _ _ _ _ hv p₁ (p₂.up.trans pp) (st₂.step pp (fun b mm => by obtain rfl := mem1 mm; exact hdx) (fun b mm z => by obtain rfl := mem1 z; exact hdo mm) (fun b o e z => by obtain rfl := mem1 z; rw [ok.new _ hdx] at e; cases e) (Low.cons hD Low.nil))
    (pp.ext _ _ (by simpa using hne) hx₂) hD
end
section
variable {w : World} {h₀ : Heap}
set_option maxHeartbeats 1000000 in
/-- TupleComp(keys) -/
theorem tupleComp_fn (B : Base w h₀) {n : Nat} (hn : 4 ≤ n) (ks : List (Nat × Int)) : Fn (n + 2) w h₀ (.ref 38) [.lst (keysD ks)] (judgeD ks) := by
  intro X A s vs Q E rm old low nw r k
  rw [RepL.cons_iff] at r; obtain ⟨v, r', rfl, rv, bu⟩ := r
  rw [RepL.nil_iff] at bu; subst bu
  have KX := B.K.keeps old
  refine wpAny_call (make_core (h := s.heap) (g := s.gens) (d := s.drawn) (t := s.toks) (os := s.os) (C := 38) (init := .ref 28) (makes_of KX (by rfl)) (looks_findIn KX (by rfl)) (fun self => bind_fn KX self (by rfl)) (.inl (by rfl)) ?_)
  have gx : ((s.heap.push emptyDict).push (instObj 38 s.heap.objs.size)).get? (s.heap.objs.size + 1) = some (instObj 38 s.heap.objs.size) := by heap_get
  have gd : ((s.heap.push emptyDict).push (instObj 38 s.heap.objs.size)).get? s.heap.objs.size = some emptyDict := by heap_get
  have pM : Pure s ⟨(s.heap.push emptyDict).push (instObj 38 s.heap.objs.size), s.gens, s.drawn, s.toks, s.os⟩ := .heap (tk := s.toks) fun b o _ e => Heap.get?_push_of_some _ (Heap.get?_push_of_some _ e)
  have fdx : s.heap.get? s.heap.objs.size = none := get_size _
  have fx : s.heap.get? (s.heap.objs.size + 1) = none := fresh_ge (Nat.le_succ _)
  have hxd : s.heap.objs.size + 1 ≠ s.heap.objs.size := Nat.succ_ne_self _
  revert gx gd pM fdx fx hxd
  generalize hS : (⟨(s.heap.push emptyDict).push (instObj 38 s.heap.objs.size), s.gens, s.drawn, s.toks, s.os⟩ : Shared) = sM
  have hSh : (s.heap.push emptyDict).push (instObj 38 s.heap.objs.size) = sM.heap := by rw [← hS]
  rw [hSh]
  clear hSh hS
  generalize s.heap.objs.size + 1 = x
  generalize s.heap.objs.size = dx
  intro gx gd pM fdx fx hxd
  have h0fr : ∀ a, s.heap.get? a = none → h₀.get? a = none := fun a e => by
    cases e' : h₀.get? a with
    | none => rfl
    | some o => have := old _ _ e'; rw [e] at this; cases this
  have xX : x ∉ X := fun m => by obtain ⟨o, g⟩ := low _ m; rw [fx] at g; cases g
  have dX : dx ∉ X := fun m => by obtain ⟨o, g⟩ := low _ m; rw [fdx] at g; cases g
  have rv2 : Rep (x :: dx :: X) sM.heap (.lst (keysD ks)) v := (rv.more fun a m => by
    rcases memc m with rfl | m
    · exact .inr fx
    · rcases memc m with rfl | m
      · exact .inr fdx
      · exact .inl m).ext pM.pure
  refine codeAny_mono (fn_enterYc (x :: dx :: X) (n := n) (w := w) (h₀ := h₀) (a := 28) (o := _) (fd := fdOf w 28) (body := _) (params := [Str.ofString "self", Str.ofString "comp_select_list"]) (args := [.ref x, .lst (keysD ks)]) (d := .none) [x, dx]
    (fun s' => s'.heap.get? x = some (instObj 38 dx) ∧ s'.heap.get? dx = some emptyDict)
    (fun s' => s'.heap.get? x = some (instObj 38 dx) ∧ ∃ H tk m u, s'.heap.get? dx = some (dictOf [⟨H, .str (Str.ofString "comp_select_list") tk, u⟩] m) ∧ Rep X s'.heap (.lst (keysD ks)) u)
    (fun s s' h p => ⟨p.pure _ _ h.1, p.pure _ _ h.2⟩) B rfl rfl rfl rfl rfl rfl rfl (fun vals h => ?_) (nodup_of rfl) (by decide) rfl
    (by intro x hx
        rcases memc hx with rfl | hx
        · exact .inl rfl
        · obtain rfl := mem1 hx; exact .inl rfl) rfl rfl rfl rfl ?_
    (A.under (.builtin "type.__call__" ⟨[.ref 38, v], []⟩)) sM [.ref x, v] (fun v' s' => v' = .none ∧ Q (.ref x) s') (fun e s' => E e s') (rm.under 38 [v]) (fun b o e => pM.pure _ _ (old b o e)) ?_ ?_ (.cons Rep.ref' (.cons rv2 .nil)) ⟨gx, gd⟩ (fun a m => by
      rcases memc m with rfl | m
      · exact .head _
      · obtain rfl := mem1 m; exact .tail _ (.head _)) ?_) ?_
  · exact bindv2 h fun a b => rfl
  · intro A s₁ La Q E ok rm st hP hY hO k1 k2
    obtain ⟨hx, hd⟩ := hP
    have hdX := List.mem_append_right (La :: (scopeVs (La + 1) (fdOf w 28).scope.names).filterMap (·.2)) (hY dx (by simp))
    have hdo := fun m => hO dx m (by simp)
    refine sSetAC (c := fnCx w h₀ (x :: dx :: X) (fdOf w 28) 28 La [some (.ref x), some (.lst (keysD ks))]) (es := []) (m := 0) (P := fun v s' => Rep (fnCx w h₀ (x :: dx :: X) (fdOf w 28) 28 La [some (.ref x), some (.lst (keysD ks))]).X s'.heap (.lst (keysD ks)) v) 0 ok rm st hx hd hdX hdo hxd
      (fun Q E k => evRun (c := fnCx w h₀ (x :: dx :: X) (fdOf w 28) 28 La [some (.ref x), some (.lst (keysD ks))]) ok rm st (Ev.name 1) k) (fun v1 sa s₂ H1 tk1 m1 r1 pa p2 st₂ hx₂ hd₂ => ?_) (fun _ _ _ => rfl) (by rfl) (by show 0 ≤ 10; decide) (fun _ => rfl) (fun _ => rfl) (fun _ => rfl)
    refine sNil (k2 s₂ ((pa.up.trans p2).mono (fun a m => List.mem_append_right _ (by obtain rfl := mem1 m; simp)) (by simp)) ⟨hx₂, H1, tk1, m1, v1, hd₂, ?_⟩ rfl)
    exact (r1.extX (p2.ext.mono (fun a m => by obtain rfl := mem1 m; exact hdX))).less fun a m => List.mem_append_right _ (.tail _ (.tail _ m))
  · intro a m
    rcases memc m with rfl | m
    · exact ⟨_, gx⟩
    · rcases memc m with rfl | m
      · exact ⟨_, gd⟩
      · obtain ⟨o, g⟩ := low a m; exact ⟨o, pM.pure _ _ g⟩
  · intro a m
    rcases memc m with rfl | m
    · exact h0fr _ fx
    · rcases memc m with rfl | m
      · exact h0fr _ fdx
      · exact nw a m
  · rintro v' s' p ⟨hx, H, tk, m, u, hd, ru⟩ r
    refine ⟨r.none_inv, k _ s' ?_ ?_⟩
    · exact Step.unseen' (W := [x, dx]) (gs := []) (Y := []) pM (p.mono (fun a m => by simpa using m) (by simp)) (fun a m => by
        rcases memc m with rfl | m
        · exact fx
        · obtain rfl := mem1 m; exact fdx) (by simp)
    · rw [Rep]
      exact ⟨x, dx, H, tk, m, _, u, rfl, xX, dX, hx, hd, ru⟩
  · intro r s' z
    rcases r with e | (v | _ | _ | _) <;> exact z
end
end Mine
end
section
open PySem PySem.W PyProof.Rows
set_option Elab.async false
set_option linter.unusedVariables false
set_option maxRecDepth 100000
set_option pp.deepTerms false
set_option pp.deepTerms.threshold 4
namespace Mine
/-- addresses that come in use, while others are written -/
theorem St.layY {c : Cx} {s s' : Shared} {io Y : List Addr} {gs} (st : St c s) (p : Step Y gs s s') (hY : ∀ a ∈ Y, a ∈ c.X) (hO : ∀ a ∈ c.own, a ∉ Y) (h0 : ∀ a o, c.h₀.get? a = some o → a ∉ Y) (hl : Low Y s'.heap) (h : ∀ a ∈ io, s.heap.get? a = none) (hN : Low io s'.heap) : St (c.lay io) s' := by
  have k : ∀ {d v}, Rep c.X s.heap d v → Rep (io ++ c.X) s'.heap d v := fun r => (r.more fun b hb => (List.mem_append.mp hb).elim (fun m => .inr (h b m)) .inl).extX (p.ext.mono fun a m => List.mem_append_right _ (hY a m))
  have st' := st.step p hY hO h0 hl
  refine ⟨st'.old, fun a m => (List.mem_append.mp m).elim (hN a) (st'.low a), st.len, ?_, ?_⟩
  · obtain ⟨m, hn, hm⟩ := st.ns
    exact ⟨m, hn.at' fun o e => p.ext _ o (hO _ (.head _)) e, fun i x d e1 e2 => let ⟨v, a, b⟩ := hm i x d e1 e2; ⟨v, a, k b⟩⟩
  · intro i x a e
    obtain ⟨ov, ⟨o, ho, hd⟩, hv⟩ := st.cells i x a e
    have ma : a ∈ c.own := .tail _ (List.mem_filterMap.mpr ⟨_, List.mem_of_getElem? e, rfl⟩)
    exact ⟨ov, ⟨o, p.ext _ _ (hO _ ma) ho, hd⟩, fun d e => let ⟨v, a, b⟩ := hv d e; ⟨v, a, k b⟩⟩
theorem IntsAre.setL {vs : List Value} {ns : List Int} (h : IntsAre vs ns) : ∀ (k : Nat) (x : Int) (t : Tok), IntsAre (vs.set k (.int x t)) (ns.set k x) := by
  induction h with
  | nil => intro k x t; exact .nil
  | cons n t h ih =>
    intro k x t'
    cases k with
    | zero => exact .cons _ _ h
    | succ k => exact .cons _ _ (ih k x t')
theorem IntsAre.takeL {vs : List Value} {ns : List Int} (h : IntsAre vs ns) : ∀ (k : Nat), IntsAre (vs.take k) (ns.take k) := by
  induction h with
  | nil => intro k; simp; exact .nil
  | cons n t h ih =>
    intro k
    cases k with
    | zero => exact .nil
    | succ k => exact .cons _ _ (ih k)
section
variable {n : Nat} {c : Cx} {A : Around} {s : Shared} {Q : Flow → Shared → Prop} {E : Value → Shared → Prop} {rest : List Stmt} {x : Str} {p lp apos pos spos tpos : Pos} {e : Expr} {d : D} {w' : World} {env' : Env}
/-- x = [..], a list that is to change -/
theorem sNewListE {es : List Expr} {ds : List D} (i : Nat) {sl} (ok : Ok c) (rm : Rm n A) (st : St c s) (hes : Evs n c es ds) (hz : ds.length ≤ 1000)
    (k : ∀ N s', s.heap.get? N = none → Step c.wr [] s s' → Ok ((c.plus N).wd (c.ds.set i (some (.ref N)))) → St ((c.plus N).wd (c.ds.set i (some (.ref N)))) s' → LstAt (N :: c.X) N ds s'.heap → wpAny (model prog w') A (execs rest env') Q E s') (hi : c.vs[i]? = some (x, sl) := by rfl)
    (hk : sl = none ∨ c.env.kindOf x = some .cell := by first | exact .inl rfl | exact .inr rfl) (hle : ∀ a, sl = some a → c.env.locals ≤ a := by intro a h; cases h <;> repeat (first | exact Nat.le_refl _ | apply Nat.le_succ_of_le))
    (hsw : swapsWith (.List es lp) (some (.Name x p)) spos.line c.env = pure false := by rfl) (he' : env' = c.env := by rfl) (hw' : w' = c.w := by rfl) :
    wpAny (model prog w') A (execs (.Assign [.Name x p] (.List es lp) spos :: rest) env') Q E s := by
  subst he' hw'
  refine wpAny_execs_cons (wpAny_Assign_Name (List_ (hes ok A s _ _ _ rm st fun vs s₁ p₁ r₁ => ?_)) hsw)
  have st₁ := st.pure p₁
  unfold newList
  refine wpAny_newObj_type ?_ (by show vs.toArray.size ≤ sizeLine; rw [List.size_toArray, r₁.length]; exact Nat.le_trans hz (by decide))
  have fr := get_size s₁.heap
  have pp : Pure s₁ { s₁ with heap := s₁.heap.push { cls := .type "list", data := .seq vs.toArray } } := .push
  have fr0 : c.h₀.get? s₁.heap.objs.size = none := by
    cases e : c.h₀.get? s₁.heap.objs.size with
    | none => rfl
    | some o => have := st₁.old _ _ e; rw [fr] at this; cases this
  have okN := ok.plus fr0
  have stN := st₁.plus pp fr ⟨_, Heap.get?_push_size _ rfl⟩
  have nwr : s₁.heap.objs.size ∉ c.wr := fun m => by obtain ⟨o, g⟩ := st₁.low _ (ok.wr _ m); rw [fr] at g; cases g
  have r₂ : RepL (s₁.heap.objs.size :: c.X) (s₁.heap.push { cls := .type "list", data := .seq vs.toArray }) ds vs := (r₁.more fun b hb => by
    rcases memc hb with rfl | hb
    · exact .inr fr
    · exact .inl hb).ext pp.pure
  refine store (c := c.plus s₁.heap.objs.size) (d := .ref s₁.heap.objs.size) i hi okN stN Rep.ref' hk hle fun s' p' st' => k s₁.heap.objs.size s' (none_of_ext p₁ fr) ((p₁.trans pp).up.trans p') (okN.wd _) st' ?_
  exact LstAt.extX (Y := c.wr) ⟨vs, ⟨_, Heap.get?_push_size _ rfl⟩, r₂⟩ p'.ext nwr (fun b m => .tail _ (ok.wr b m))
/-- x[idx] += e upon a list that changes -/
theorem sAugItem {a : Addr} {cs : List Int} {k : Nat} {v : Int} {idx : Expr} (j : Nat) {sl} (ok : Ok c) (rm : Rm n A) (st : St c s) (L : LstAt c.X a (cs.map D.int) s.heap) (ha : a ∈ c.X) (hao : a ∉ c.own) (hk : k < cs.length) (hz : cs.length ≤ 1000) (hidx : Ev n c idx (.int k)) (hv : Ev n c e (.int v))
    (kk : ∀ s', Step [a] [] s s' → St c s' → LstAt c.X a ((cs.set k (cs.getD k 0 + v)).map D.int) s'.heap → wpAny (model prog w') A (execs rest env') Q E s') (hj : c.vs[j]? = some (x, sl) := by rfl) (hd : c.ds[j]? = some (some (.ref a)) := by rfl)
    (hx : (x == ("__debug__" : Str)) = false := by rfl) (hc : (x == ("__classdict__" : Str)) = false := by rfl)
    (hst : ∀ ov iv new, augStore idx ov iv new = (do holding [new, ov, iv] (setItem ov iv new); release [new, ov, iv] []; pure .next) := by intros; rfl) (he' : env' = c.env := by rfl) (hw' : w' = c.w := by rfl) :
    wpAny (model prog w') A (execs (.AugAssign (.Subscript (.Name x p) idx tpos) .Add e pos :: rest) env') Q E s := by
  subst he' hw'
  refine wpAny_execs_cons (wpAny_AugAssign_SubscriptAny (evRun ok rm st (Ev.name j hj hd hx hc) fun ov s₁ p₁ r₁ => ?_) hst)
  rw [r₁.ref_inv]
  have st₁ := st.pure p₁
  refine evRun ok rm st₁ hidx fun iv s₂ p₂ r₂ => ?_
  obtain ⟨t, rfl⟩ := r₂.int_inv
  have st₂ := st₁.pure p₂
  have L₂ := (L.ext p₁.pure).ext p₂.pure
  obtain ⟨vs, pl, r⟩ := L₂
  have hlen := r.length
  rw [List.length_map] at hlen
  have hget : ∀ (j : Nat), j < cs.length → ∃ t, vs[j]? = some (.int (cs.getD j 0) t) := fun j hj => by
    obtain ⟨v, e, rv⟩ := r.get (show (cs.map D.int)[j]? = some (.int (cs.getD j 0)) by rw [List.getElem?_map, List.getElem?_eq_getElem hj, List.getD_eq_getElem?_getD, List.getElem?_eq_getElem hj]; rfl)
    obtain ⟨t, rfl⟩ := rv.int_inv
    exact ⟨t, e⟩
  obtain ⟨to, hto⟩ := hget k hk
  refine wpAny_getItem_list pl.isList (by lia) (by lia) (x := .int (cs.getD k 0) to) (by rw [Int.toNat_natCast]; simpa using hto) ?_
  refine evRun ok rm st₂ hv fun u s₃ p₃ r₃ => ?_
  obtain ⟨tu, rfl⟩ := r₃.int_inv
  have st₃ := st₂.pure p₃
  refine op_iadd (n := n) c.X A s₃ _ _ _ _ rm st₃.low Rep.int' Rep.int' fun nv s₄ p₄ r₄ => ?_
  obtain ⟨tn, rfl⟩ := r₄.int_inv
  have st₄ := st₃.pure p₄
  obtain ⟨m, g⟩ := (pl.at fun o e => p₃.pure _ o e).at fun o e => p₄.pure _ o e
  refine ki_setAt g (by lia) (by lia) (by rw [List.size_toArray]; lia) ?_
  have hb : Heap.SameBut a s₄.heap (s₄.heap.update a (Obj.mapSeq (·.setIfInBounds ((k : Int).toNat) (.int (cs.getD k 0 + v) tn)))) := Heap.SameBut.update ..
  have hu := PySem.IsL.update g (·.setIfInBounds ((k : Int).toNat) (.int (cs.getD k 0 + v) tn))
  have q : Step [a] [] s₄ { s₄ with heap := s₄.heap.update a (Obj.mapSeq (·.setIfInBounds ((k : Int).toNat) (.int (cs.getD k 0 + v) tn))) } := Step.but (tk := s₄.toks) hb (by simp)
  refine kk _ ((((p₁.trans p₂).trans p₃).trans p₄).up.trans q) (st₄.step q (fun b m => by obtain rfl := mem1 m; exact ha) (fun b m z => by obtain rfl := mem1 z; exact hao m) (fun b o e z => by obtain rfl := mem1 z; rw [ok.new _ ha] at e; cases e) (Low.cons hu Low.nil)) ⟨vs.set k (.int (cs.getD k 0 + v) tn), ⟨_, by rw [hu]; simp; rfl⟩, ?_⟩
  refine of_ints ?_
  exact IntsAre.setL (ints_of r) k _ _
/-- script[:60] -/
theorem Ev.script {l : Addr} {vs : List Value} {ns : List Int} {value u : Expr} {hiN : Nat} (hv : Ev n c value (.ref l)) (hl : c.h₀.IsList l vs.toArray) (hns : IntsAre vs ns) (hu : Ev n c u (.int hiN)) (hz : ns.length ≤ 1000) : Ev n c (.Subscript value (.Slice none (some u) none p) pos) (.lst ((ns.take hiN).map D.int)) := by
  intro ok A s Q E rm st k
  refine Subscript_ (hv ok A s _ _ rm st fun v₁ s₁ p₁ r₁ => ?_)
  rw [r₁.ref_inv]
  have st₁ := st.pure p₁
  refine wpAny_Slice ((Pt.no : Pt n c none none).run ok rm st₁ fun v₂ s₂ o₂ p₂ e₂ q₂ => (Pt.yes hu).run ok rm (st₁.pure p₂) fun v₃ s₃ o₃ p₃ e₃ q₃ => wpAny_evalPart_none ?_)
  have pq := (p₁.trans p₂).trans p₃
  have st₃ := st.pure pq
  have ia : s₃.heap.IsList l vs.toArray := let ⟨o, e, r⟩ := hl; ⟨o, st₃.old _ _ e, r⟩
  have pp : Pure s₃ { s₃ with heap := s₃.heap.push { cls := .type "slice", data := .fields #[v₂, v₃, .none] } } := .push
  have ia' : Heap.IsList (s₃.heap.push { cls := .type "slice", data := .fields #[v₂, v₃, .none] }) l vs.toArray := let ⟨o, e, r⟩ := ia; ⟨o, pp.pure _ _ e, r⟩
  have q2 : IsPart v₂ none := by rw [e₂, ← q₂]; cases o₂ <;> first | exact .none | exact .int _ _ | constructor
  have q3 : IsPart v₃ (some (hiN : Int)) := by rw [e₃, ← q₃]; cases o₃ <;> first | exact .none | exact .int _ _ | constructor
  have hlen := hns.length
  refine tail_any (T := "list") ia'.typeIs slot_list_getitem.lookup ?_ (ops := [.ref s₃.heap.objs.size, .ref l]) rfl
  refine wpAny_getItem_list_slice ia' (vl := v₂) (vu := v₃) (vs := .none) ⟨_, Heap.get?_push_size _ rfl, rfl, rfl⟩ q2 q3 (st := none) (by constructor) (by simp) ?_ (by rw [List.size_toArray, hlen]; exact Nat.le_trans hz (by decide))
  refine k _ _ (pq.trans (pp.trans .push)) ?_
  have st₄ := st₃.pure pp
  have e2 : sl none (some (hiN : Int)) vs = vs.take hiN := sl_to hiN vs
  refine Rep.lst' (vs := vs.take hiN) (fresh_not st₄.low) ⟨0, ?_⟩ (of_ints (IntsAre.takeL hns hiN))
  rw [← e2, ← slicePick_sl]; exact Heap.get?_push_size _ rfl
/-- a tuple from its second thing on -/
theorem Ev.tup1 {value l : Expr} {ds : List D} {d : D} (hv : Ev n c value (.tup (d :: ds))) (hu : Ev n c l (.int 1)) (hz : ds.length ≤ 100) (hsub : ∀ v i, subscripted (.Slice (some l) none none p) false v i = operate [i, v] (getItem v i) := by intro _ _; with_unfolding_all rfl) : Ev n c (.Subscript value (.Slice (some l) none none p) pos) (.tup ds) := by
  intro ok A s Q E rm st k
  refine Subscript_ (hv ok A s _ _ rm st fun v₁ s₁ p₁ r₁ => ?_)
  have st₁ := st.pure p₁
  refine wpAny_Slice ((Pt.yes hu).run ok rm st₁ fun v₂ s₂ o₂ p₂ e₂ q₂ => (Pt.no : Pt n c none none).run ok rm (st₁.pure p₂) fun v₃ s₃ o₃ p₃ e₃ q₃ => wpAny_evalPart_none ?_)
  have pq := (p₁.trans p₂).trans p₃
  obtain ⟨a, vs, rfl, na, ia, ra⟩ := (r₁.ext (p₂.trans p₃).pure).tup_inv
  have st₃ := st.pure pq
  have hv3 : v₃ = .none := by rw [e₃]; cases o₃ <;> first | rfl | (cases q₃)
  obtain ⟨t2, hv2⟩ : ∃ t, v₂ = .int 1 t := by
    rw [e₂]
    cases o₂ with
    | none => cases q₂
    | some q =>
      obtain ⟨i, t⟩ := q
      have : i = 1 := by simpa using q₂
      subst this
      exact ⟨t, rfl⟩
  subst hv2 hv3
  have pp : Pure s₃ { s₃ with heap := s₃.heap.push { cls := .type "slice", data := .fields #[.int 1 t2, .none, .none] } } := .push
  have ia' : IsTup (s₃.heap.push { cls := .type "slice", data := .fields #[.int 1 t2, .none, .none] }) a vs.toArray := ia.keeps fun _ _ e => pp.pure _ _ e
  have hlen := ra.length
  rw [List.length_cons] at hlen
  refine tail_any (T := "tuple") ia'.typeIs slot_tuple_getitem.lookup ?_ (ops := [.ref s₃.heap.objs.size, .ref a]) (hsub _ _)
  refine getItem_tuple_from (a := 1) ia' ⟨_, Heap.get?_push_size _ rfl, rfl, rfl⟩ (Nat.le_refl _) (by rw [List.size_toArray]; lia) ?_ (by rw [List.size_toArray, hlen]; exact Nat.le_trans (show ds.length + 1 ≤ 101 by lia) (by decide))
  refine k _ _ (pq.trans (pp.trans .push)) ?_
  have st₄ := st₃.pure pp
  rw [RepL.cons_iff] at ra
  obtain ⟨v, r, rfl, a1, b1⟩ := ra
  refine Rep.tup' (vs := r) (fresh_not st₄.low) ⟨_, Heap.get?_push_size _ rfl, rfl, 0, by simp⟩ ?_
  have e2 : Pure { s₃ with heap := s₃.heap.push { cls := .type "slice", data := .fields #[.int 1 t2, .none, .none] } } { s₃ with heap := (s₃.heap.push { cls := .type "slice", data := .fields #[.int 1 t2, .none, .none] }).push { cls := .type "tuple", data := .seq (((v :: r).toArray).toList.drop 1).toArray } } := .push
  exact (b1.ext pp.pure).ext e2.pure
end
end Mine
end
section
open PySem PySem.W PyProof.Rows
set_option Elab.async false
set_option linter.unusedVariables false
set_option maxRecDepth 100000
set_option pp.deepTerms false
set_option pp.deepTerms.threshold 4
namespace Mine
structure HasFd (w : World) (a : Addr) where
  fd : FuncData
  cls : Value
  dict : Option Addr
  slots : Array (Option Value)
  eq : (KF w).lookup a = some ⟨cls, dict, .func fd, slots⟩
noncomputable def lawH (w : World) : HasFd w 146 := ⟨_, _, _, _, rfl⟩
noncomputable def lawFd (w : World) : FuncData := (lawH w).fd
noncomputable abbrev lawC (w : World) (h₀ : Heap) (La : Addr) (ds : List (Option D)) : Cx := fnCx w h₀ [107] (lawFd w) 146 La ds
noncomputable def lawB (w : World) : List Stmt := match (lawFd w).body with
  | .stmts b => b
  | _ => []
theorem Step.wide {Y Z : List Addr} {gs} {s s' : Shared} (p : Step Y gs s s') (k : ∀ a ∈ Y, a ∈ Z) : Step Z gs s s' := p.mono k (fun _ h => h)
/-- an address goes back into reach -/
theorem filt_self {X : List Addr} {N : Addr} (h : N ∉ X) : (N :: X).filter (fun b => b != N) = X := by
  rw [List.filter_cons]
  simp only [bne_self_eq_false, Bool.false_eq_true, if_false]
  rw [List.filter_eq_self]
  intro a ha
  simp only [bne_iff_ne]
  rintro rfl; exact h ha
theorem St.unX {c : Cx} {X' : List Addr} {s : Shared} (h : St c s) (e : c.X = X') : St { c with X := X' } s := by
  subst e; exact h
theorem enumD_get : ∀ (l : List D) (i k : Nat) (d : D), (enumD i l)[k]? = some d → ∃ x, l[k]? = some x ∧ d = .tup [.int (i + k : Nat), x]
  | [], i, k, d, h => by simp [enumD] at h
  | y :: l, i, 0, d, h => by
    rw [enumD] at h
    simp at h
    exact ⟨y, rfl, by rw [← h]; simp⟩
  | y :: l, i, k + 1, d, h => by
    rw [enumD] at h
    simp at h
    obtain ⟨x, e, q⟩ := enumD_get l (i + 1) k d h
    exact ⟨x, by simpa using e, by rw [q, show i + 1 + k = i + (k + 1) by lia]⟩
section
variable {w : World} {h₀ : Heap}
set_option maxHeartbeats 4000000 in
/-- the cells -/
theorem segA (B : Base w h₀) {n : Nat} (hn : 4 ≤ n) {La l : Addr} {vs : List Value} {ns : List Int} (hl : h₀.IsList l vs.toArray) (hns : IntsAre vs ns) (hlen : ns.length ≤ 63) {A : Around} {s : Shared} {Q : Flow → Shared → Prop} {E : Value → Shared → Prop} (rm : Rm n A)
    (ok : ∀ ds, Ok (lawC w h₀ La ds)) (st : St (lawC w h₀ La [some (.ref l), none, none, none, none, none, none, none, none, none, none, none, none, none, none, none, none, none, none, none, none, none, none, none, none, none, none, none, none, none, none]) s)
    (k : ∀ (cs : List Nat) s', cs.length = 8 → (∀ x ∈ cs, x < 100000000) → Step (lawC w h₀ La []).wr [] s s' → St (lawC w h₀ La [some (.ref l), some (.lst (cs.map fun x : Nat => D.int x)), none, none, none, none, none, none, none, none, none, none, none, none, none, none, none, none, none, none, none, none, none, none, none, none, none, none, none, none, none]) s' → wpAny (model prog w) A (execs ((lawB w).drop 2) (lawC w h₀ La []).env) Q E s') :
    wpAny (model prog w) A (execs (lawB w) (lawC w h₀ La []).env) Q E s := by
  rw [show lawB w = _ :: _ :: (lawB w).drop 2 from rfl]
  revert k
  generalize (lawB w).drop 2 = rest
  intro k
  refine sNewListE (c := lawC w h₀ La [some (.ref l), none, none, none, none, none, none, none, none, none, none, none, none, none, none, none, none, none, none, none, none, none, none, none, none, none, none, none, none, none, none]) (ds := ([9, 1, 6, 8, 3, 4, 36, 577215] : List Int).map D.int) 1 (ok _) rm st (.cons Ev.kInt (.cons Ev.kInt (.cons Ev.kInt (.cons Ev.kInt (.cons Ev.kInt (.cons Ev.kInt (.cons Ev.kInt (.cons Ev.kInt .nil)))))))) (by decide) fun N s₁ fN p₁ okN st₁ L₁ => ?_
  have fresh : ∀ a o, s.heap.get? a = some o → a ≠ N := fun a o g e => by rw [e, fN] at g; cases g
  have nX : N ∉ (lawC w h₀ La []).X := fun m => by obtain ⟨o, g⟩ := st.low N m; exact fresh N o g rfl
  have nO : N ∉ (lawC w h₀ La []).own := fun m => nX ((ok []).own N m)
  have okN' : ∀ ds, Ok (((lawC w h₀ La []).plus N).wd ds) := fun ds => okN.wd ds
  have hl60 : (ns.take 60).length ≤ 60 := by rw [List.length_take]; exact Nat.min_le_left _ _
  refine sFor (n := n) (enumD 0 ((ns.take 60).map D.int)) (fun k => [some (.ref l), some (.ref N), none, none, none, none, none, none, none, none, none, none, none, none, none, none, none, none, none, none, none, none, none, none, none, none, none, none, none, none, none]) (N :: (lawC w h₀ La []).wr) (fun k s => ∃ cs : List Int, cs.length = 8 ∧ (∀ x ∈ cs, 0 ≤ x ∧ x ≤ 577215 + k * 1000003) ∧ LstAt (N :: (lawC w h₀ La []).X) N (cs.map D.int) s.heap) (fun _ _ => False)
    okN rm hn st₁ (EvI.enum (Ev.script (Ev.name 0) hl hns Ev.kInt (by lia))) rfl (fun a m => .tail _ m) (fun a m => ?_) (fun s' p => ⟨_, rfl, by decide, L₁.ext p.pure⟩) (fun io hio k s' s'' gs hP p => ?_) ?_ (fun _ _ _ h => h.elim) ?_
  · rcases memc m with rfl | m
    · exact .head _
    · exact .tail _ ((ok []).wr a m)
  · obtain ⟨cs, h1, h2, h3⟩ := hP
    have nio : N ∉ io := fun m => by obtain ⟨o, g⟩ := h3.there; have := hio N m; obtain ⟨o', g'⟩ := L₁.there; rw [this] at g'; cases g'
    obtain ⟨vs', pl, r⟩ := h3
    refine ⟨cs, h1, h2, vs', pl.at fun o e => p.ext _ o nio e, of_ints (ints_of r)⟩
  · intro io k d A s₂ v Q E hd hio okT rm st₂ hP hst rv hk1 hk2
    obtain ⟨x, hx, rfl⟩ := enumD_get _ 0 k d hd
    rw [List.getElem?_map] at hx
    obtain ⟨m, hm, rfl⟩ := Option.map_eq_some_iff.mp hx
    have hk60 : k < 60 := by have := (List.getElem?_eq_some_iff.mp hm).1; lia
    obtain ⟨cs, h1, h2, h3⟩ := hP
    have nio : ∀ b ∈ io, b ≠ N := fun b m e => by obtain ⟨o, g⟩ := L₁.there; rw [← e, hio b m] at g; cases g
    refine (Asg.tuple (.cons (.name 2) (.cons (.name 3) .nil)) : Asg n _ _ _ _) okT A s₂ v _ E rm st₂ rv fun s₃ p₃ st₃ => ?_
    have nwr : N ∉ (lawC w h₀ La []).wr := fun m => nO (Cx.wr_own m)
    have L₃ : LstAt (io ++ (N :: (lawC w h₀ La []).X)) N (cs.map D.int) s₃.heap := by
      obtain ⟨vs', pl, r⟩ := h3
      exact ⟨vs', pl.at fun o e => p₃.ext _ o nwr e, of_ints (ints_of r)⟩
    have hmod : (0 : Int) ≤ m % 1000003 ∧ m % 1000003 ≤ 1000002 := ⟨Int.emod_nonneg _ (by decide), by have := Int.emod_lt_of_pos m (show (0 : Int) < 1000003 by decide); lia⟩
    refine sAugItem (n := n) (cs := cs) (k := k % 8) (v := m % 1000003) 1 (okT.wd _) rm st₃ L₃ (List.mem_append_right _ (.head _)) nO (by lia) (by lia) (Ev.cast (Ev.bin (Ev.name 2) Ev.kInt (op_mod (by decide))) (congrArg D.int (by lia))) (Ev.bin (Ev.name 3) Ev.kInt (op_mod (by decide))) fun s₄ p₄ st₄ L₄ => sNil ?_
    refine hk1 .next s₄ (.inl rfl) ((p₃.wide (fun a m => .tail _ m)).trans (p₄.wide (fun a m => by obtain rfl := mem1 m; exact .head _))) (St.fit st₄ ?_) ⟨_, ?_, ?_, L₄.less (fun a m => List.mem_append_right _ m)⟩
    · repeat' first | exact trivial | refine And.intro rfl ?_
    · rw [List.length_set]; exact h1
    · intro y hy
      rcases List.mem_or_eq_of_mem_set hy with hy | rfl
      · have := h2 y hy; lia
      · have hg : cs.getD (k % 8) 0 ∈ cs := by
          rw [List.getD_eq_getElem?_getD, List.getElem?_eq_getElem (by lia)]; exact List.getElem_mem _
        have := h2 _ hg; lia
  · intro s₂ p₂ st₂ hP
    obtain ⟨cs, h1, h2, h3⟩ := hP
    have hcs : cs.map D.int = (cs.map Int.toNat).map fun x : Nat => D.int x := by
      rw [List.map_map]
      apply List.map_congr_left
      intro x hx
      have := (h2 x hx).1
      show D.int x = D.int ((x.toNat : Nat) : Int)
      rw [Int.toNat_of_nonneg this]
    have st₃ := St.frz (i := 1) st₂ h3 rfl
    have eX : (N :: (lawC w h₀ La []).X).filter (fun b => b != N) = (lawC w h₀ La []).X := filt_self nX
    rw [hcs] at st₃
    have st₄ : St (lawC w h₀ La [some (.ref l), some (.lst ((cs.map Int.toNat).map fun x : Nat => D.int x)), none, none, none, none, none, none, none, none, none, none, none, none, none, none, none, none, none, none, none, none, none, none, none, none, none, none, none, none, none]) s₂ := by
      exact St.unX st₃ eX
    refine k (cs.map Int.toNat) s₂ (by rw [List.length_map]; exact h1) (fun x hx => ?_) (Step.unseen' (W := [N]) (gs := []) p₁ p₂ (fun a m => by obtain rfl := mem1 m; exact fN) (by simp)) st₄
    obtain ⟨y, hy, rfl⟩ := List.mem_map.mp hx
    have := h2 y hy
    have hlen2 : (enumD 0 ((ns.take 60).map D.int)).length ≤ 60 := by rw [enumD_length, List.length_map]; exact hl60
    lia
end
end Mine
end
section
open PySem PySem.W PyProof.Rows
set_option Elab.async false
set_option linter.unusedVariables false
set_option maxRecDepth 100000
set_option pp.deepTerms false
set_option pp.deepTerms.threshold 4
namespace Mine
section
variable {n : Nat} {c : Cx} {elt tg iter : Expr} {ifs : List Expr} {sc : Scope} {pos : Pos} {cl : List (Str × Addr)} {is : List Nat} {fr : List (Str × Option Addr)}
/-- a comprehension over a mapped list -/
theorem Ev.lcM {α : Type} (f : α → D) (g : α → Option D) (l : List α) (H : CompOk c sc cl is fr) (hn : 4 ≤ n) (hi : EvI n c iter tg (l.map f)) (hsz : l.length ≤ 1000)
    (turn : ∀ (io : List Addr) (N : Addr) (x : α), x ∈ l → CTurn n ((compCx c sc cl fr N (ds0 c sc is)).lay io) tg ifs elt (f x) (g x))
    (hs : ∀ x, foldedSetIterable iter c.env x = pure x := by intro _; rfl) :
    Ev n c (.ListComp elt [⟨tg, iter, ifs, 0⟩] sc pos) (.lst (l.filterMap g)) := by
  intro ok A s Q E rm st k
  have hsz' : l.length ≤ sizeLine := Nat.le_trans hsz (by decide)
  refine comp1 (n := n) H hn (l.map f) (fun k => (l.take k).filterMap g) [] (fun _ _ => True) ok rm st hi rfl (fun k => ?_) (by simp) (by simp) (fun _ _ => trivial) (fun _ _ _ _ _ _ _ _ => trivial) ?_ ?_ hs
  · refine Nat.le_trans (List.length_filterMap_le _ _) (Nat.le_trans ?_ hsz')
    rw [List.length_take]; exact Nat.min_le_right _ _
  · intro io N k d s' v Kn Ke E' hd hio okc stc _ _ rv kn ke
    rw [List.getElem?_map] at hd
    obtain ⟨x, hx, rfl⟩ := Option.map_eq_some_iff.mp hd
    have tk : (l.take (k + 1)).filterMap g = (l.take k).filterMap g ++ (g x).toList := by
      rw [List.take_add_one, hx, List.filterMap_append]
      congr 1
    refine (turn io N x (List.mem_of_getElem? hx)).run okc rm stc rv (fun s₂ e st₂ p₂ => ?_) fun x' v s₂ e st₂ p₂ r₂ => ?_
    · exact kn s₂ (by show (l.take (k + 1)).filterMap g = _; rw [tk, e]; simp) st₂ (p₂.mono (fun a m => List.mem_append_left _ m) (by simp)) trivial
    · exact ke x' v s₂ (by show (l.take (k + 1)).filterMap g = _; rw [tk, e]; rfl) st₂ (p₂.mono (fun a m => List.mem_append_left _ m) (by simp)) trivial r₂
  · intro v s' p st' _ r
    have r' : Rep c.X s'.heap (.lst ((l.take (l.map f).length).filterMap g)) v := r
    rw [List.length_map, List.take_length] at r'
    exact k v s' p r'
/-- each thing of a list, turned -/
theorem Ev.lcA {α : Type} (f : α → D) (g : α → D) (l : List α) (H : CompOk c sc cl is fr) (hn : 4 ≤ n) (hi : EvI n c iter tg (l.map f)) (hsz : l.length ≤ 1000)
    (turn : ∀ (io : List Addr) (N : Addr) (x : α), x ∈ l → CTurn n ((compCx c sc cl fr N (ds0 c sc is)).lay io) tg ifs elt (f x) (some (g x)))
    (hs : ∀ x, foldedSetIterable iter c.env x = pure x := by intro _; rfl) :
    Ev n c (.ListComp elt [⟨tg, iter, ifs, 0⟩] sc pos) (.lst (l.map g)) := by
  have := Ev.lcM f (fun x => some (g x)) l H hn hi hsz turn hs (pos := pos) (elt := elt) (ifs := ifs)
  rwa [List.filterMap_eq_map'] at this
end
noncomputable def cv (cs : List Nat) (k : Nat) : Nat := cs.getD k 0
noncomputable def keysAll (c : Nat) : List (Nat × Int) := [(c % 2, 1 - ((c / 2 % 2 * 2 : Nat) : Int)), (1 - c % 2, 1 - ((c / 4 % 2 * 2 : Nat) : Int))]
noncomputable def keysOf (c : Nat) : List (Nat × Int) := (keysAll c).take (if c / 8 % 3 = 0 then 1 else 2)
noncomputable def thingOf (c : Nat) : List Int := [((c % 3 : Nat) : Int), ((c / 3 % 3 : Nat) : Int)]
noncomputable abbrev thingsD (cs : List Nat) : D := .lst ((cs.take 6).map fun c => pairD (thingOf c))
noncomputable def ordOf (cs : List Nat) (i j : Nat) : Int := cmpv (thingOf (cv cs i)) (thingOf (cv cs j)) (keysOf (cv cs 6))
theorem map_range6 {β : Type} (f : Nat → β) (l : List Nat) (h : l.length = 6) : l.map f = (List.range 6).map fun i => f (l.getD i 0) := by
  refine List.ext_getElem (by rw [List.length_map, List.length_map, List.length_range, h]) fun i h1 h2 => ?_
  rw [List.length_map] at h1
  rw [List.getElem_map, List.getElem_map, List.getElem_range, List.getD_eq_getElem?_getD, List.getElem?_eq_getElem h1]; rfl
theorem take6 {cs : List Nat} (h : cs.length = 8) : (cs.take 6).length = 6 ∧ ∀ i, i < 6 → (cs.take 6).getD i 0 = cv cs i := by
  refine ⟨by rw [List.length_take]; lia, fun i hi => ?_⟩
  unfold cv
  rw [List.getD_eq_getElem?_getD, List.getD_eq_getElem?_getD, List.getElem?_take_of_lt hi]
section
variable {w : World} {h₀ : Heap}
set_option maxHeartbeats 4000000 in
/-- the keys -/
theorem segB (B : Base w h₀) {n : Nat} (hn : 4 ≤ n) {La l : Addr} {cs : List Nat} (hcs : cs.length = 8) (hb : ∀ x ∈ cs, x < 100000000) {A : Around} {s : Shared} {Q : Flow → Shared → Prop} {E : Value → Shared → Prop} (rm : Rm (n + 2) A)
    (ok : ∀ ds, Ok (lawC w h₀ La ds)) (st : St (lawC w h₀ La [some (.ref l), some (natsD cs), none, none, none, none, none, none, none, none, none, none, none, none, none, none, none, none, none, none, none, none, none, none, none, none, none, none, none, none, none]) s)
    (k : ∀ s', Step (lawC w h₀ La []).wr [] s s' → St (lawC w h₀ La [some (.ref l), some (natsD cs), none, none, some (.lst (keysD (keysOf (cv cs 6)))), none, none, none, none, none, none, none, none, none, none, none, none, none, none, none, none, none, none, none, none, none, none, none, none, none, none]) s' → wpAny (model prog w) A (execs ((lawB w).drop 4) (lawC w h₀ La []).env) Q E s') :
    wpAny (model prog w) A (execs ((lawB w).drop 2) (lawC w h₀ La []).env) Q E s := by
  rw [show (lawB w).drop 2 = _ :: _ :: (lawB w).drop 4 from rfl]
  revert k
  generalize (lawB w).drop 4 = rest
  intro k
  have h6 : cv cs 6 < 100000000 := by
    unfold cv
    rw [List.getD_eq_getElem?_getD, List.getElem?_eq_getElem (by lia)]; exact hb _ (List.getElem_mem _)
  have e1 : ∀ m : Nat, ((m : Nat) : Int) % 2 = ((m % 2 : Nat) : Int) := fun m => by lia
  refine sAssign (c := lawC w h₀ La [some (.ref l), some (natsD cs), none, none, none, none, none, none, none, none, none, none, none, none, none, none, none, none, none, none, none, none, none, none, none, none, none, none, none, none, none]) (d := .lst (keysD (keysAll (cv cs 6)))) (ds' := [some (.ref l), some (natsD cs), none, none, some (.lst (keysD (keysAll (cv cs 6)))), none, none, none, none, none, none, none, none, none, none, none, none, none, none, none, none, none, none, none, none, none, none, none, none, none, none]) 4 (ok _) rm st ?_ fun s₁ p₁ st₁ => ?_
  · refine Ev.list (.cons (Ev.tuple (.cons (d := .int ((cv cs 6 % 2 : Nat) : Int)) ?_ (.cons (d := .int (1 - ((cv cs 6 / 2 % 2 * 2 : Nat) : Int))) ?_ .nil)) (by show 2 ≤ sizeLine; decide)) (.cons (Ev.tuple (.cons (d := .int ((1 - cv cs 6 % 2 : Nat) : Int)) ?_ (.cons (d := .int (1 - ((cv cs 6 / 4 % 2 * 2 : Nat) : Int))) ?_ .nil)) (by show 2 ≤ sizeLine; decide)) .nil)) (by show 2 ≤ sizeLine; decide)
    · exact Ev.cast (Ev.bin (Ev.nats (Ev.name 1) Ev.kInt (k := 6) (by lia) (by lia)) Ev.kInt (op_mod (by decide))) (congrArg D.int (by show ((cv cs 6 : Nat) : Int) % 2 = _; lia))
    · exact Ev.cast (Ev.bin Ev.kInt (Ev.bin (Ev.bin (Ev.bin (Ev.nats (Ev.name 1) Ev.kInt (k := 6) (by lia) (by lia)) Ev.kInt (op_div (by decide) (by decide))) Ev.kInt (op_mod (by decide))) Ev.kInt (op_mul (by lia) (by lia))) op_sub) (congrArg D.int (by show (1 : Int) - ((cv cs 6 : Nat) : Int) / 2 % 2 * 2 = _; lia))
    · exact Ev.cast (Ev.bin Ev.kInt (Ev.bin (Ev.nats (Ev.name 1) Ev.kInt (k := 6) (by lia) (by lia)) Ev.kInt (op_mod (by decide))) op_sub) (congrArg D.int (by show (1 : Int) - ((cv cs 6 : Nat) : Int) % 2 = _; lia))
    · exact Ev.cast (Ev.bin Ev.kInt (Ev.bin (Ev.bin (Ev.bin (Ev.nats (Ev.name 1) Ev.kInt (k := 6) (by lia) (by lia)) Ev.kInt (op_div (by decide) (by decide))) Ev.kInt (op_mod (by decide))) Ev.kInt (op_mul (by lia) (by lia))) op_sub) (congrArg D.int (by show (1 : Int) - ((cv cs 6 : Nat) : Int) / 4 % 2 * 2 = _; lia))
  have hsl : sl none (some (if cv cs 6 / 8 % 3 = 0 then (1 : Int) else 2)) (keysD (keysAll (cv cs 6))) = keysD (keysOf (cv cs 6)) := by
    rw [show (if cv cs 6 / 8 % 3 = 0 then (1 : Int) else 2) = ((if cv cs 6 / 8 % 3 = 0 then 1 else 2 : Nat) : Int) by split <;> rfl, sl_to]
    unfold keysD keysOf
    rw [List.map_take]
  refine sAssign (c := lawC w h₀ La [some (.ref l), some (natsD cs), none, none, some (.lst (keysD (keysAll (cv cs 6)))), none, none, none, none, none, none, none, none, none, none, none, none, none, none, none, none, none, none, none, none, none, none, none, none, none, none]) (d := .lst (keysD (keysOf (cv cs 6)))) (ds' := [some (.ref l), some (natsD cs), none, none, some (.lst (keysD (keysOf (cv cs 6)))), none, none, none, none, none, none, none, none, none, none, none, none, none, none, none, none, none, none, none, none, none, none, none, none, none, none]) 4 (ok _) rm st₁ ?_ fun s₂ p₂ st₂ => ?_
  · refine Ev.cast (Ev.slc (Ev.name 4) .no (.yes (Ev.ifexp (b := decide (cv cs 6 / 8 % 3 = 0)) (d := .int (if cv cs 6 / 8 % 3 = 0 then (1 : Int) else 2)) ?_ (fun h => ?_) (fun h => ?_))) (by show 2 ≤ sizeLine; decide)) (congrArg D.lst hsl)
    · refine Tv.cast (Tv.cmp (Ev.bin (Ev.bin (Ev.nats (Ev.name 1) Ev.kInt (k := 6) (by lia) (by lia)) Ev.kInt (op_div (by decide) (by decide))) Ev.kInt (op_mod (by decide))) Ev.kInt op_eqi) ?_
      show (((cv cs 6 : Nat) : Int) / 8 % 3 == 0) = _
      rw [Bool.eq_iff_iff]; simp; lia
    · rw [if_pos (of_decide_eq_true h)]; exact Ev.kInt
    · rw [if_neg (of_decide_eq_false h)]; exact Ev.kInt
  exact k s₂ (p₁.trans p₂) st₂
end
end Mine
end
section
open PySem PySem.W PyProof.Rows
set_option Elab.async false
set_option linter.unusedVariables false
set_option maxRecDepth 100000
set_option pp.deepTerms false
set_option pp.deepTerms.threshold 4
namespace Mine
section
variable {w : World} {h₀ : Heap}
theorem keysOf_lt (c : Nat) : ∀ k ∈ keysOf c, k.1 < 2 := by
  intro k hk
  have : k ∈ keysAll c := List.mem_of_mem_take hk
  unfold keysAll at this
  simp only [List.mem_cons, List.not_mem_nil, or_false] at this
  rcases this with rfl | rfl <;> simp <;> omega
set_option maxHeartbeats 4000000 in
/-- the judge, the things, the order -/
theorem segC (B : Base w h₀) {n : Nat} (hn : 4 ≤ n) {La l : Addr} {cs : List Nat} (hcs : cs.length = 8) (hb : ∀ x ∈ cs, x < 100000000) {A : Around} {s : Shared} {Q : Flow → Shared → Prop} {E : Value → Shared → Prop} (rm : Rm (n + 2) A)
    (ok : ∀ ds, Ok (lawC w h₀ La ds)) (st : St (lawC w h₀ La [some (.ref l), some (natsD cs), none, none, some (.lst (keysD (keysOf (cv cs 6)))), none, none, none, none, none, none, none, none, none, none, none, none, none, none, none, none, none, none, none, none, none, none, none, none, none, none]) s)
    (k : ∀ s', Step (lawC w h₀ La []).wr [] s s' → St (lawC w h₀ La [some (.ref l), some (natsD cs), none, none, some (.lst (keysD (keysOf (cv cs 6)))), some (judgeD (keysOf (cv cs 6))), some (thingsD cs), none, some (ordD (ordOf cs)), none, none, none, none, none, none, none, none, none, none, none, none, none, none, none, none, none, none, none, none, none, none]) s' → wpAny (model prog w) A (execs ((lawB w).drop 6) (lawC w h₀ La []).env) Q E s') :
    wpAny (model prog w) A (execs ((lawB w).drop 4) (lawC w h₀ La []).env) Q E s := by
  rw [show (lawB w).drop 4 = _ :: _ :: (lawB w).drop 6 from rfl]
  revert k
  generalize (lawB w).drop 6 = rest
  intro k
  have hsz : ((cs.map fun x : Nat => D.int x)).length ≤ sizeLine := by rw [List.length_map, hcs]; decide
  refine sAssignT (c := lawC w h₀ La [some (.ref l), some (natsD cs), none, none, some (.lst (keysD (keysOf (cv cs 6)))), none, none, none, none, none, none, none, none, none, none, none, none, none, none, none, none, none, none, none, none, none, none, none, none, none, none]) (d := .tup [judgeD (keysOf (cv cs 6)), thingsD cs]) (ds' := [some (.ref l), some (natsD cs), none, none, some (.lst (keysD (keysOf (cv cs 6)))), some (judgeD (keysOf (cv cs 6))), some (thingsD cs), none, none, none, none, none, none, none, none, none, none, none, none, none, none, none, none, none, none, none, none, none, none, none, none]) (ok _) rm st (Ev.tuple (.cons (Ev.call (.cons (Ev.name 4) .nil) (tupleComp_fn B hn _)) (.cons ?_ .nil)) (by show 2 ≤ sizeLine; decide)) (Asg.tuple (.cons (.name 5) (.cons (.name 6) .nil))) fun s₁ p₁ st₁ => ?_
  · refine Ev.lcA (fun x : Nat => D.int x) (fun x => pairD (thingOf x)) (cs.take 6) (CompOk.of []) (by lia) (EvI.lst (Ev.cast (Ev.slc (Ev.name 1) .no (.yes Ev.kInt) hsz) ?_)) (by rw [List.length_take]; lia) fun io N x hx => ?_
    · show D.lst (sl none (some ((6 : Nat) : Int)) (cs.map fun x : Nat => D.int x)) = _
      rw [sl_to, List.map_take]
    · have hx' := hb x (List.mem_of_mem_take hx)
      refine CTurn.all (.name 1) (Ev.tuple (.cons (d := .int ((x % 3 : Nat) : Int)) ?_ (.cons (d := .int ((x / 3 % 3 : Nat) : Int)) ?_ .nil)) (by show 2 ≤ sizeLine; decide))
      · exact Ev.cast (Ev.bin (Ev.name 1) Ev.kInt (op_mod (by decide))) (congrArg D.int (by lia))
      · exact Ev.cast (Ev.bin (Ev.bin (Ev.name 1) Ev.kInt (op_div (by decide) (by decide))) Ev.kInt (op_mod (by decide))) (congrArg D.int (by lia))
  refine sAssign (c := lawC w h₀ La [some (.ref l), some (natsD cs), none, none, some (.lst (keysD (keysOf (cv cs 6)))), some (judgeD (keysOf (cv cs 6))), some (thingsD cs), none, none, none, none, none, none, none, none, none, none, none, none, none, none, none, none, none, none, none, none, none, none, none, none]) (d := ordD (ordOf cs)) (ds' := [some (.ref l), some (natsD cs), none, none, some (.lst (keysD (keysOf (cv cs 6)))), some (judgeD (keysOf (cv cs 6))), some (thingsD cs), none, some (ordD (ordOf cs)), none, none, none, none, none, none, none, none, none, none, none, none, none, none, none, none, none, none, none, none, none, none]) 8 (ok _) rm st₁ (Ev.cast (Ev.lcA (fun c => pairD (thingOf c)) (fun one => .lst ((cs.take 6).map fun other => .int (cmpv (thingOf one) (thingOf other) (keysOf (cv cs 6))))) (cs.take 6) (CompOk.of [5, 6]) (by lia) (EvI.lst (Ev.name 6)) (by rw [List.length_take]; lia) fun io N one hone => ?_) ?_) fun s₂ p₂ st₂ => ?_
  · refine CTurn.all (.name 1) (Ev.lcA (fun c => pairD (thingOf c)) (fun other => .int (cmpv (thingOf one) (thingOf other) (keysOf (cv cs 6)))) (cs.take 6) (CompOk.of [2, 1]) (by lia) (EvI.lst (Ev.name 3)) (by rw [List.length_take]; lia) fun io2 N2 other hother => ?_)
    refine CTurn.all (.name 1) (Ev.methI (Ev.name 2) (.cons (Ev.name 3) (.cons (Ev.name 1) .nil)) (compare_fn B (by lia) _ _ _ rfl rfl (keysOf_lt _)) rfl rfl rfl (fun _ => rfl) (fun _ => rfl) (fun _ => rfl) (fun _ => rfl) (by decide))
  · obtain ⟨h6, hg⟩ := take6 hcs
    congr 1
    rw [map_range6 _ _ h6]
    apply List.map_congr_left
    intro i hi
    have hi' := List.mem_range.mp hi
    congr 1
    rw [map_range6 _ _ h6]
    apply List.map_congr_left
    intro j hj
    have hj' := List.mem_range.mp hj
    rw [hg i hi', hg j hj']
    rfl
  exact k s₂ (p₁.trans p₂) st₂
end
end Mine
end
section
open PySem PySem.W PyProof.Rows
set_option Elab.async false
set_option linter.unusedVariables false
set_option maxRecDepth 100000
set_option pp.deepTerms false
set_option pp.deepTerms.threshold 4
namespace Mine
theorem EvI.cast {n : Nat} {c : Cx} {e tg : Expr} {ds ds' : List D} (h : EvI n c e tg ds') (q : ds' = ds) : EvI n c e tg ds := q ▸ h
theorem enumD_zip {α : Type} (f : α → D) : ∀ (l : List α) (i : Nat), enumD i (l.map f) = (l.zipIdx i).map fun p => .tup [.int (p.2 : Nat), f p.1]
  | [], i => rfl
  | a :: l, i => by rw [List.map_cons, enumD, enumD_zip f l (i + 1)]; rfl
noncomputable def rankOf (ks : List (Nat × Int)) (th : List Int) : Int := (ks.zipIdx.map fun p => th.getD p.1.1 0 * p.1.2 * 10 ^ (1 - p.2)).sum
noncomputable def ranksOf (cs : List Nat) : List Int := (cs.take 6).map fun c => rankOf (keysOf (cv cs 6)) (thingOf c)
theorem keysOf_dir (c : Nat) : ∀ k ∈ keysOf c, k.2 = 1 ∨ k.2 = -1 := by
  intro k hk
  have : k ∈ keysAll c := List.mem_of_mem_take hk
  unfold keysAll at this
  simp only [List.mem_cons, List.not_mem_nil, or_false] at this
  rcases this with rfl | rfl <;> simp only <;> lia
theorem thingOf_bd (c j : Nat) : 0 ≤ (thingOf c).getD j 0 ∧ (thingOf c).getD j 0 ≤ 2 := by
  unfold thingOf
  match j with
  | 0 => show 0 ≤ ((c % 3 : Nat) : Int) ∧ ((c % 3 : Nat) : Int) ≤ 2; lia
  | 1 => show 0 ≤ ((c / 3 % 3 : Nat) : Int) ∧ ((c / 3 % 3 : Nat) : Int) ≤ 2; lia
  | j + 2 => show (0 : Int) ≤ 0 ∧ (0 : Int) ≤ 2; lia
section
variable {w : World} {h₀ : Heap}
set_option maxHeartbeats 4000000 in
/-- the order is looked at; the ranks -/
theorem segD (B : Base w h₀) {n : Nat} (hn : 4 ≤ n) {La l : Addr} {cs : List Nat} (hcs : cs.length = 8) (hb : ∀ x ∈ cs, x < 100000000) (hord : ∀ i j, i < 6 → j < 6 → (ordOf cs i j = -1 ∨ ordOf cs i j = 0 ∨ ordOf cs i j = 1) ∧ ordOf cs i j + ordOf cs j i = 0) {A : Around} {s : Shared} {Q : Flow → Shared → Prop} {E : Value → Shared → Prop} (rm : Rm (n + 2) A)
    (ok : ∀ ds, Ok (lawC w h₀ La ds)) (st : St (lawC w h₀ La [some (.ref l), some (natsD cs), none, none, some (.lst (keysD (keysOf (cv cs 6)))), some (judgeD (keysOf (cv cs 6))), some (thingsD cs), none, some (ordD (ordOf cs)), none, none, none, none, none, none, none, none, none, none, none, none, none, none, none, none, none, none, none, none, none, none]) s)
    (k : ∀ s', Step (lawC w h₀ La []).wr [] s s' → St (lawC w h₀ La [some (.ref l), some (natsD cs), none, none, some (.lst (keysD (keysOf (cv cs 6)))), some (judgeD (keysOf (cv cs 6))), some (thingsD cs), none, some (ordD (ordOf cs)), none, some (intsD (ranksOf cs)), none, none, none, none, none, none, none, none, none, none, none, none, none, none, none, none, none, none, none, none]) s' → wpAny (model prog w) A (execs ((lawB w).drop 8) (lawC w h₀ La []).env) Q E s') :
    wpAny (model prog w) A (execs ((lawB w).drop 6) (lawC w h₀ La []).env) Q E s := by
  rw [show (lawB w).drop 6 = _ :: _ :: (lawB w).drop 8 from rfl]
  revert k
  generalize (lawB w).drop 8 = rest
  intro k
  have hempty : (((List.range 6).map fun i : Nat => D.int i).map fun d => (match d with | .int i => (List.range (i.toNat + 1)).map fun j : Nat => D.int j | _ => []).filterMap (fun _ => (none : Option D))).flatten = ([] : List D) := by rfl
  refine sIf (c := lawC w h₀ La [some (.ref l), some (natsD cs), none, none, some (.lst (keysD (keysOf (cv cs 6)))), some (judgeD (keysOf (cv cs 6))), some (thingsD cs), none, some (ordD (ordOf cs)), none, none, none, none, none, none, none, none, none, none, none, none, none, none, none, none, none, none, none, none, none, none]) (b := false) (ok _) rm st (Tv.cmp (d₁ := .lst []) (d₂ := .lst []) (Ev.cast (Ev.lc2 (items := (List.range 6).map fun i : Nat => D.int i) (fun d => match d with | .int i => (List.range (i.toNat + 1)).map fun j : Nat => D.int j | _ => []) (fun _ _ => none) (CompOk.of [8]) (by lia) (EvI.range (k := 6) Ev.kInt (by decide)) ?_ ?_) (congrArg D.lst hempty)) (Ev.list .nil) (op_neNil (l := []) rfl (by lia))) (fun h => nomatch h) (fun _ s₁ p₁ st₁ => sNil ?_)
  · intro k
    refine Nat.le_trans (m := 1000) ?_ (by decide)
    have h0 : ∀ L : List D, (L.map fun d => (match d with | .int i => (List.range (i.toNat + 1)).map fun j : Nat => D.int j | _ => []).filterMap (fun _ => (none : Option D))).flatten = [] := by
      intro L
      induction L with
      | nil => rfl
      | cons a L ih => rw [List.map_cons, List.flatten_cons, ih, List.append_nil, List.filterMap_eq_nil_iff]; intro _ _; rfl
    rw [h0, List.length_nil, Nat.zero_add]
    cases hk : ((List.range 6).map fun i : Nat => D.int i)[k]? with
    | none => exact Nat.zero_le _
    | some d =>
      obtain ⟨i, hi, rfl⟩ := List.mem_map.mp (List.mem_of_getElem? hk)
      have hi6 := List.mem_range.mp hi
      show ((List.range ((i : Int).toNat + 1)).map fun j : Nat => D.int j).length ≤ 1000
      rw [List.length_map, List.length_range, Int.toNat_natCast]; lia
  · intro io N d hd
    obtain ⟨i, hi, rfl⟩ := List.mem_map.mp hd
    have hi6 := List.mem_range.mp hi
    refine ⟨_, Asg.name 1, ?_, EvI.range (k := (i : Int).toNat + 1) (Ev.cast (Ev.bin (Ev.name 1) Ev.kInt op_add) (congrArg D.int (by rw [Int.toNat_natCast]; lia))) (by rw [Int.toNat_natCast]; lia), fun io2 e he => ?_⟩
    · repeat' first | exact trivial | refine And.intro rfl ?_
    · obtain ⟨j, hj, rfl⟩ := List.mem_map.mp he
      have hj' := List.mem_range.mp hj
      rw [Int.toNat_natCast] at hj'
      obtain ⟨h1, h2⟩ := hord i j hi6 (by lia)
      refine ⟨_, Asg.name 2, ?_, .one (Tv.cast (b' := false || false) (Tv.or (Tv.cmp (d₂ := .tup ([-1, 0, 1].map D.int)) (Ev.ord (Ev.name 3) (Ev.name 1) (Ev.name 2) hi6 (by lia)) (Ev.tuple (.cons (Ev.un Ev.kInt op_neg) (.cons Ev.kInt (.cons Ev.kInt .nil))) (by show 3 ≤ sizeLine; decide)) ?_) (fun _ => Tv.cmp (Ev.bin (Ev.ord (Ev.name 3) (Ev.name 1) (Ev.name 2) hi6 (by lia)) (Ev.ord (Ev.name 3) (Ev.name 2) (Ev.name 1) (by lia) hi6) op_add) Ev.kInt ?_)) rfl)⟩
      · repeat' first | exact trivial | refine And.intro rfl ?_
      · have := op_notInT (n := n + 2) (w := w) (i := ordOf cs i j) (ns := [-1, 0, 1])
        rwa [show (!([-1, 0, 1] : List Int).any (· == ordOf cs i j)) = false by rcases h1 with e | e | e <;> rw [e] <;> rfl] at this
      · have := op_nei (n := n + 2) (w := w) (i := ordOf cs i j + ordOf cs j i) (j := 0)
        rwa [show (ordOf cs i j + ordOf cs j i != 0) = false by rw [h2]; rfl] at this
  have klen : (keysOf (cv cs 6)).length ≤ 2 := by
    unfold keysOf
    rw [List.length_take]; exact Nat.min_le_right _ _
  have zmem : ∀ (k : Nat) (d : Int) (i : Nat), ((k, d), i) ∈ (keysOf (cv cs 6)).zipIdx → i < 2 ∧ (k, d) ∈ keysOf (cv cs 6) ∧ (d = 1 ∨ d = -1) := fun k d i h => by
    have h1 := List.mem_zipIdx h
    have hm : (k, d) ∈ keysOf (cv cs 6) := by rw [h1.2.2]; exact List.getElem_mem _
    exact ⟨by lia, hm, keysOf_dir _ _ hm⟩
  refine sAssign (c := lawC w h₀ La [some (.ref l), some (natsD cs), none, none, some (.lst (keysD (keysOf (cv cs 6)))), some (judgeD (keysOf (cv cs 6))), some (thingsD cs), none, some (ordD (ordOf cs)), none, none, none, none, none, none, none, none, none, none, none, none, none, none, none, none, none, none, none, none, none, none]) (d := intsD (ranksOf cs)) (ds' := [some (.ref l), some (natsD cs), none, none, some (.lst (keysD (keysOf (cv cs 6)))), some (judgeD (keysOf (cv cs 6))), some (thingsD cs), none, some (ordD (ordOf cs)), none, some (intsD (ranksOf cs)), none, none, none, none, none, none, none, none, none, none, none, none, none, none, none, none, none, none, none, none]) 10 (ok _) rm st₁ (Ev.cast (Ev.lcA (fun c => pairD (thingOf c)) (fun c => .int (rankOf (keysOf (cv cs 6)) (thingOf c))) (cs.take 6) (CompOk.of [4]) (by lia) (EvI.lst (Ev.name 6)) (by rw [List.length_take]; lia) fun io N c hc => ?_) ?_) fun s₂ p₂ st₂ => k s₂ (p₁.up.trans p₂) st₂
  · refine CTurn.all (.name 1) (Ev.callB Boot.sum Kp.builtin (.cons (Ev.cast (Ev.lcA (fun p : (Nat × Int) × Nat => .tup [.int (p.2 : Nat), .tup [.int p.1.1, .int p.1.2]]) (fun p => .int ((thingOf c).getD p.1.1 0 * p.1.2 * 10 ^ (1 - p.2))) ((keysOf (cv cs 6)).zipIdx) (CompOk.of [1]) (by lia) ?_ ?_ fun io2 N2 p hp => ?_) ?_) .nil) (fn_sum (ns := (keysOf (cv cs 6)).zipIdx.map fun p => (thingOf c).getD p.1.1 0 * p.1.2 * 10 ^ (1 - p.2)) ?_ ?_))
    · exact EvI.cast (EvI.enum (Ev.name 2)) (enumD_zip (fun k : Nat × Int => .tup [.int k.1, .int k.2]) (keysOf (cv cs 6)) 0)
    · rw [List.length_zipIdx]; exact Nat.le_trans klen (by decide)
    · obtain ⟨⟨col, dir⟩, i⟩ := p
      obtain ⟨hi2, hm, hd⟩ := zmem _ _ _ hp
      have hcol := keysOf_lt _ _ hm
      have hb3 := thingOf_bd c col
      have hth : ((thingOf c).map D.int)[((col : Nat) : Int).toNat]? = some (.int ((thingOf c).getD col 0)) := by
        rw [Int.toNat_natCast]
        match col, hcol with
        | 0, _ => rfl
        | 1, _ => rfl
      refine CTurn.all (Asg.tuple (.cons (.name 1) (.cons (Asg.tuple (.cons (.name 2) (.cons (.name 3) .nil))) .nil))) (Ev.cast (Ev.bin (Ev.bin (Ev.atT (Ev.name 4) (Ev.name 2) (by lia) (by show 2 ≤ 2 ^ 30; decide) hth) (Ev.name 3) (op_mul (by lia) (by lia))) (Ev.bin Ev.kInt (Ev.bin Ev.kInt (Ev.name 1) op_sub) (op_pow (k := 0) (by lia) ?_)) (op_mul ?_ ?_)) (congrArg D.int ?_))
      · have : (1 : Int) - (i : Nat) ≤ 1 := by lia
        have h4 : (Builtin.Int.intBits 10 : Int) ≤ 100 := by decide
        have h5 : (0 : Int) ≤ (Builtin.Int.intBits 10 : Int) := by decide
        have : (Builtin.Int.intBits 10 : Int) * (1 - (i : Nat)) ≤ (Builtin.Int.intBits 10 : Int) * 1 := Int.mul_le_mul_of_nonneg_left this h5
        show (Builtin.Int.intBits 10 : Int) * (1 - (i : Nat)) ≤ 2 ^ 27
        lia
      · rcases hd with e | e <;> simp only [e] <;> lia
      · rcases hd with e | e <;> simp only [e] <;> lia
      · show (thingOf c).getD col 0 * dir * 10 ^ (1 - (i : Int)).toNat = _
        rw [show (1 - (i : Int)).toNat = 1 - i by lia]
    · rw [List.map_map]; rfl
    · intro x hx
      obtain ⟨⟨⟨col, dir⟩, i⟩, hp, rfl⟩ := List.mem_map.mp hx
      obtain ⟨hi2, hm, hd⟩ := zmem _ _ _ hp
      have hb3 := thingOf_bd c col
      have h10 : (10 : Int) ^ (1 - i) = 1 ∨ (10 : Int) ^ (1 - i) = 10 := by
        match i, hi2 with
        | 0, _ => exact .inr rfl
        | 1, _ => exact .inl rfl
      simp only
      rcases hd with e | e <;> simp only [e] <;> rcases h10 with e' | e' <;> rw [e'] <;> lia
    · rw [List.length_map, List.length_zipIdx]; exact Nat.le_trans klen (by decide)
  · show D.lst _ = D.lst _
    congr 1
    unfold ranksOf
    rw [List.map_map]; rfl
end
end Mine
end
section
open PySem PySem.W PyProof.Rows
set_option Elab.async false
set_option linter.unusedVariables false
set_option maxRecDepth 100000
set_option pp.deepTerms false
set_option pp.deepTerms.threshold 4
namespace Mine
noncomputable def baseN : List (List Nat) := [[97], [92, 40], [92, 41], [92, 34], [92, 92], [98]]
noncomputable def namesOf (cs : List Nat) : List (List Nat) := (List.range 6).map fun k => baseN.getD ((cv cs 6 / 24 + k) % 6) []
noncomputable def wayOf (cs : List Nat) (p : Nat) : Nat := cv cs 7 / 3 ^ p % 16
noncomputable def escB (way s : Nat) : Bool := way % 2 == 1 || (s == 92 || (s == 34 && decide (way % 4 > 1)))
noncomputable def shownOf (way : Nat) (nm : List Nat) : List Nat := (nm.map fun s => if escB way s then [92, s] else [s]).flatten
noncomputable def pieceOf (way : Nat) (nm : List Nat) : List Nat := (if decide (way % 4 > 1) then [34] ++ shownOf way nm ++ [34] else shownOf way nm) ++ [wsL.getD (way / 4) 0]
noncomputable def txtK (cs : List Nat) (k : Nat) : List Nat := ((List.range k).map fun p => pieceOf (wayOf cs p) ((namesOf cs).getD p [])).flatten
noncomputable def textOf (cs : List Nat) : List Nat := (txtK cs 6).take ((txtK cs 6).length - cv cs 7 % 2)
theorem baseN_mem (cs : List Nat) (k : Nat) (hk : k < 6) : (namesOf cs).getD k [] ∈ baseN := by
  unfold namesOf
  rw [List.getD_eq_getElem?_getD, List.getElem?_map, List.getElem?_range hk]
  show baseN.getD _ [] ∈ baseN
  have : (cv cs 6 / 24 + k) % 6 < baseN.length := Nat.mod_lt _ (by decide)
  rw [List.getD_eq_getElem?_getD, List.getElem?_eq_getElem this]
  exact List.getElem_mem _
theorem baseN_ok : ∀ nm ∈ baseN, nm.length ≤ 2 ∧ nm.all (· < 128) = true := by decide
theorem shown_len (way : Nat) : ∀ nm : List Nat, (shownOf way nm).length ≤ 2 * nm.length
  | [] => by simp [shownOf]
  | s :: nm => by
    have := shown_len way nm
    unfold shownOf at this ⊢
    rw [List.map_cons, List.flatten_cons, List.length_append, List.length_cons]
    split <;> simp only [List.length_cons, List.length_nil] <;> lia
theorem piece_len (way : Nat) (nm : List Nat) (h : nm.length ≤ 2) : 1 ≤ (pieceOf way nm).length ∧ (pieceOf way nm).length ≤ 7 := by
  have := shown_len way nm
  unfold pieceOf
  rw [List.length_append]
  split <;> simp only [List.length_append, List.length_cons, List.length_nil] <;> lia
theorem txt_succ (cs : List Nat) (k : Nat) : txtK cs (k + 1) = txtK cs k ++ pieceOf (wayOf cs k) ((namesOf cs).getD k []) := by
  unfold txtK
  rw [List.range_succ, List.map_append, List.flatten_append]
  simp
theorem txt_len (cs : List Nat) : ∀ k, k ≤ 6 → k ≤ (txtK cs k).length ∧ (txtK cs k).length ≤ 7 * k
  | 0, _ => by simp [txtK]
  | k + 1, h => by
    have ih := txt_len cs k (by lia)
    have := piece_len (wayOf cs k) _ (baseN_ok _ (baseN_mem cs k (by lia))).1
    rw [txt_succ, List.length_append]
    lia
theorem ws_get : ∀ i, i < 4 → ([10, 9, 13, 32] : List Nat)[i]? = some (wsL.getD i 0) := by decide +kernel
theorem pow3_lt : ∀ k, k < 6 → (3 : Int) ^ k < 1073741824 := by decide +kernel
section
variable {w : World} {h₀ : Heap}
set_option maxHeartbeats 4000000 in
/-- the names and the text -/
theorem segE (B : Base w h₀) {n : Nat} (hn : 4 ≤ n) {La l : Addr} {cs : List Nat} (hcs : cs.length = 8) (hb : ∀ x ∈ cs, x < 100000000) {A : Around} {s : Shared} {Q : Flow → Shared → Prop} {E : Value → Shared → Prop} (rm : Rm (n + 2) A)
    (ok : ∀ ds, Ok (lawC w h₀ La ds)) (st : St (lawC w h₀ La [some (.ref l), some (natsD cs), none, none, some (.lst (keysD (keysOf (cv cs 6)))), some (judgeD (keysOf (cv cs 6))), some (thingsD cs), none, some (ordD (ordOf cs)), none, some (intsD (ranksOf cs)), none, none, none, none, none, none, none, none, none, none, none, none, none, none, none, none, none, none, none, none]) s)
    (k : ∀ s', Step (lawC w h₀ La []).wr [] s s' → St (lawC w h₀ La [some (.ref l), some (natsD cs), none, none, some (.lst (keysD (keysOf (cv cs 6)))), some (judgeD (keysOf (cv cs 6))), some (thingsD cs), none, some (ordD (ordOf cs)), none, some (intsD (ranksOf cs)), some (strsD (namesOf cs)), some (.str (textOf cs)), none, none, none, none, none, none, none, none, none, none, none, none, none, none, none, none, none, none]) s' → wpAny (model prog w) A (execs ((lawB w).drop 11) (lawC w h₀ La []).env) Q E s') :
    wpAny (model prog w) A (execs ((lawB w).drop 8) (lawC w h₀ La []).env) Q E s := by
  rw [show (lawB w).drop 8 = _ :: _ :: _ :: (lawB w).drop 11 from rfl]
  revert k
  generalize (lawB w).drop 11 = rest
  intro k
  have cvb : ∀ i, cv cs i < 100000000 := fun i => by
    unfold cv
    rw [List.getD_eq_getElem?_getD]
    cases h : cs[i]? with
    | none => decide
    | some x => exact hb _ (List.mem_of_getElem? h)
  refine sAssignT (c := lawC w h₀ La [some (.ref l), some (natsD cs), none, none, some (.lst (keysD (keysOf (cv cs 6)))), some (judgeD (keysOf (cv cs 6))), some (thingsD cs), none, some (ordD (ordOf cs)), none, some (intsD (ranksOf cs)), none, none, none, none, none, none, none, none, none, none, none, none, none, none, none, none, none, none, none, none]) (d := .tup [strsD (namesOf cs), .str []]) (ds' := [some (.ref l), some (natsD cs), none, none, some (.lst (keysD (keysOf (cv cs 6)))), some (judgeD (keysOf (cv cs 6))), some (thingsD cs), none, some (ordD (ordOf cs)), none, some (intsD (ranksOf cs)), some (strsD (namesOf cs)), some (.str []), none, none, none, none, none, none, none, none, none, none, none, none, none, none, none, none, none, none]) (ok _) rm st (Ev.tuple (.cons (Ev.cast (Ev.lcA (fun x : Nat => D.int x) (fun k => .str (baseN.getD ((cv cs 6 / 24 + k) % 6) [])) (List.range 6) (CompOk.of [1]) (by lia) (EvI.range (k := 6) Ev.kInt (by decide)) (by decide) fun io N x hx => ?_) ?_) (.cons Ev.kStr .nil)) (by show 2 ≤ sizeLine; decide)) (Asg.tuple (.cons (.name 11) (.cons (.name 12) .nil))) fun s₁ p₁ st₁ => ?_
  · refine CTurn.all (.name 1) (Ev.atM (f := D.str) [] (Ev.list (.cons Ev.kStr (.cons Ev.kStr (.cons Ev.kStr (.cons Ev.kStr (.cons Ev.kStr (.cons Ev.kStr .nil)))))) (by show 6 ≤ sizeLine; decide)) (Ev.cast (Ev.bin (Ev.bin (Ev.bin (Ev.nats (Ev.name 2) Ev.kInt (k := 6) (by lia) (by lia)) Ev.kInt (op_div (by decide) (by decide))) (Ev.name 1) op_add) Ev.kInt (op_mod (by decide))) (congrArg D.int (by show (((cv cs 6 : Nat) : Int) / 24 + x) % 6 = _; lia))) (Nat.mod_lt _ (by decide)) (by decide))
  · rfl
  have nlen : (namesOf cs).length = 6 := by unfold namesOf; rw [List.length_map, List.length_range]
  refine sFor (n := n + 2) (enumD 0 ((namesOf cs).map D.str)) (fun k => [some (.ref l), some (natsD cs), none, none, some (.lst (keysD (keysOf (cv cs 6)))), some (judgeD (keysOf (cv cs 6))), some (thingsD cs), none, some (ordD (ordOf cs)), none, some (intsD (ranksOf cs)), some (strsD (namesOf cs)), some (.str (txtK cs k)), none, none, none, none, none, none, none, none, none, none, none, none, none, none, none, none, none, none]) (lawC w h₀ La []).wr (fun _ _ => True) (fun _ _ => False)
    (ok _) rm (by lia) st₁ (EvI.enum (Ev.name 11)) rfl (fun _ h => h) (ok []).wr (fun _ _ => trivial) (fun _ _ _ _ _ _ _ _ => trivial) ?_ (fun _ _ _ h => h.elim) ?_
  · intro io k d A s₂ v Q E hd hio okT rm st₂ _ _ rv hk1 _
    obtain ⟨x, hx, rfl⟩ := enumD_get _ 0 k d hd
    rw [List.getElem?_map] at hx
    obtain ⟨nm, hm, rfl⟩ := Option.map_eq_some_iff.mp hx
    have hk6 : k < 6 := by have := (List.getElem?_eq_some_iff.mp hm).1; lia
    have hnm : (namesOf cs).getD k [] = nm := by rw [List.getD_eq_getElem?_getD, hm]; rfl
    have hok := baseN_ok _ (baseN_mem cs k hk6)
    rw [hnm] at hok
    have tl := txt_len cs k (by lia)
    have hway : wayOf cs k < 16 := Nat.mod_lt _ (by decide)
    refine (Asg.tuple (.cons (.name 2) (.cons (.name 13) .nil)) : Asg (n + 2) _ _ _ _) okT A s₂ v _ E rm st₂ rv fun s₃ p₃ st₃ => ?_
    refine sAssign (d := .int ((wayOf cs k : Nat) : Int)) 14 (okT.wd _) rm st₃ (Ev.cast (Ev.bin (Ev.bin (Ev.nats (Ev.name 1) Ev.kInt (k := 7) (by lia) (by lia)) (Ev.bin Ev.kInt (Ev.name 2) (op_pow (k := 0) (by lia) ?_)) (op_div ?_ ?_)) Ev.kInt (op_mod (by decide))) (congrArg D.int ?_)) fun s₄ p₄ st₄ => ?_
    · have h4 : (Builtin.Int.intBits 3 : Int) ≤ 100 := by decide
      have h5 : (0 : Int) ≤ (Builtin.Int.intBits 3 : Int) := by decide
      have h6 : ((0 + k : Nat) : Int) ≤ 6 := by lia
      have : (Builtin.Int.intBits 3 : Int) * ((0 + k : Nat) : Int) ≤ (Builtin.Int.intBits 3 : Int) * 6 := Int.mul_le_mul_of_nonneg_left h6 h5
      lia
    · rw [Int.toNat_natCast]; exact Int.pow_pos (by decide)
    · rw [Int.toNat_natCast, Nat.zero_add]; exact pow3_lt k hk6
    · rw [Int.toNat_natCast, Nat.zero_add]
      show ((cv cs 7 : Nat) : Int) / 3 ^ k % 16 = ((cv cs 7 / 3 ^ k % 16 : Nat) : Int)
      rw [Int.natCast_emod, Int.natCast_ediv, Int.natCast_pow]; rfl
    refine sAssign (d := .str (shownOf (wayOf cs k) nm)) 15 (okT.wd _) rm st₄ (Ev.meth (T := "str") (id := "str.join") (d₀ := .str []) (ds := [.lst ((nm.map fun s => if escB (wayOf cs k) s then [92, s] else [s]).map .str)]) PySem.F.plainAttrs_str PySem.F.slot_str_join PySem.F.type_str_join mT_str Ev.kStr (.cons (Ev.cast (Ev.lcA (fun x : Nat => D.str [x]) (fun x => .str (if escB (wayOf cs k) x then [92, x] else [x])) nm (CompOk.of [14]) (by lia) (EvI.str (Ev.name 13) hok.2) (by lia) fun io2 N x hx => ?_) ?_) .nil) (fn_join ?_)) fun s₅ p₅ st₅ => ?_
    · refine CTurn.all (.name 1) (Ev.ifexp (b := escB (wayOf cs k) x) (Tv.cast (Tv.or3 (Tv.cmp (Ev.bin (Ev.name 2) Ev.kInt (op_mod (by decide))) Ev.kInt op_eqi) (fun _ => Tv.cmp (Ev.name 1) Ev.kStr op_eqs) (fun _ _ => Tv.and (Tv.cmp (Ev.name 1) Ev.kStr op_eqs) (fun _ => Tv.cmp (Ev.bin (Ev.name 2) Ev.kInt (op_mod (by decide))) Ev.kInt op_gt))) ?_) (fun h => ?_) (fun h => ?_))
      · show ((((wayOf cs k : Nat) : Int) % 2 == 1) || (([x] == [92]) || (([x] == [34]) && decide (((wayOf cs k : Nat) : Int) % 4 > 1)))) = escB (wayOf cs k) x
        unfold escB
        have e1 : (((wayOf cs k : Nat) : Int) % 2 == 1) = (wayOf cs k % 2 == 1) := by rw [Bool.eq_iff_iff]; simp; lia
        have e2 : decide (((wayOf cs k : Nat) : Int) % 4 > 1) = decide (wayOf cs k % 4 > 1) := by rw [Bool.eq_iff_iff]; simp; lia
        have e3 : ∀ a b : Nat, (([a] : List Nat) == [b]) = (a == b) := fun a b => by rw [Bool.eq_iff_iff]; simp
        rw [e1, e2, e3, e3]
      · rw [if_pos h]; exact Ev.bin Ev.kStr (Ev.name 1) (op_adds (l := [92]) (m := [x]) (by show 2 ≤ sizeLine; decide))
      · rw [if_neg (by rw [h]; decide)]; exact Ev.name 1
    · rw [List.map_map]; rfl
    · have h1 := shown_len (wayOf cs k) nm
      unfold shownOf at h1
      rw [← List.length_flatten, List.length_map]
      lia
    have hsh := shown_len (wayOf cs k) nm
    have pl := piece_len (wayOf cs k) nm hok.1
    have big : ∀ m : Nat, m ≤ 1000 → m ≤ sizeLine := fun m h => Nat.le_trans h (by decide)
    refine sAug (d₀ := .str (txtK cs k)) (d := .str (txtK cs (k + 1))) 12 (okT.wd _) rm st₅ (Ev.bin (Ev.ifexp (b := decide (wayOf cs k % 4 > 1)) (d := .str (if decide (wayOf cs k % 4 > 1) then [34] ++ shownOf (wayOf cs k) nm ++ [34] else shownOf (wayOf cs k) nm)) (Tv.cast (Tv.cmp (Ev.bin (Ev.name 14) Ev.kInt (op_mod (by decide))) Ev.kInt op_gt) ?_) (fun h => ?_) (fun h => ?_)) (Ev.atS (x := wsL.getD (wayOf cs k / 4) 0) Ev.kStr (Ev.bin (Ev.name 14) Ev.kInt (op_div (by decide) (by decide))) ?_ ?_ ?_) (op_adds ?_)) ?_ fun s₆ p₆ st₆ => sNil ?_
    · rw [Bool.eq_iff_iff]; simp; lia
    · rw [if_pos h]
      refine Ev.bin (Ev.bin Ev.kStr (Ev.name 15) (op_adds (l := [34]) (big _ ?_))) Ev.kStr (op_adds (m := [34]) (big _ ?_))
      · simp only [List.length_cons, List.length_nil]; lia
      · simp only [List.length_append, List.length_cons, List.length_nil]; lia
    · rw [if_neg (by rw [h]; decide)]; exact Ev.name 15
    · lia
    · show 4 ≤ 2 ^ 30; decide
    · have e : (((wayOf cs k : Nat) : Int) / 4).toNat = wayOf cs k / 4 := by lia
      rw [e]
      exact ws_get _ (by lia)
    · refine big _ ?_
      unfold pieceOf at pl
      rw [List.length_append] at pl
      lia
    · rw [txt_succ, hnm]
      unfold pieceOf at pl ⊢
      exact op_iadds (big _ (by lia))
    · exact hk1 .next s₆ (.inl rfl) (((((p₃.trans p₄)).trans p₅).trans p₆)) (St.fit st₆ (by repeat' first | exact trivial | refine And.intro rfl ?_)) trivial
  · intro s₂ p₂ st₂ _
    have st₃ : St (lawC w h₀ La [some (.ref l), some (natsD cs), none, none, some (.lst (keysD (keysOf (cv cs 6)))), some (judgeD (keysOf (cv cs 6))), some (thingsD cs), none, some (ordD (ordOf cs)), none, some (intsD (ranksOf cs)), some (strsD (namesOf cs)), some (.str (txtK cs 6)), none, none, none, none, none, none, none, none, none, none, none, none, none, none, none, none, none, none]) s₂ := by
      have h := st₂
      rw [enumD_length, List.length_map, nlen] at h
      exact h
    have tl := txt_len cs 6 (Nat.le_refl _)
    refine sAssign (c := lawC w h₀ La [some (.ref l), some (natsD cs), none, none, some (.lst (keysD (keysOf (cv cs 6)))), some (judgeD (keysOf (cv cs 6))), some (thingsD cs), none, some (ordD (ordOf cs)), none, some (intsD (ranksOf cs)), some (strsD (namesOf cs)), some (.str (txtK cs 6)), none, none, none, none, none, none, none, none, none, none, none, none, none, none, none, none, none, none]) (d := .str (textOf cs)) (ds' := [some (.ref l), some (natsD cs), none, none, some (.lst (keysD (keysOf (cv cs 6)))), some (judgeD (keysOf (cv cs 6))), some (thingsD cs), none, some (ordD (ordOf cs)), none, some (intsD (ranksOf cs)), some (strsD (namesOf cs)), some (.str (textOf cs)), none, none, none, none, none, none, none, none, none, none, none, none, none, none, none, none, none, none]) 12 (ok _) rm st₃ (Ev.cast (Ev.slcS (Ev.name 12) .no (.yes (Ev.bin (Ev.callB Boot.len Kp.builtin (.cons (Ev.name 12) .nil) (fn_lens (by lia))) (Ev.bin (Ev.nats (Ev.name 1) Ev.kInt (k := 7) (by lia) (by lia)) Ev.kInt (op_mod (by decide))) op_sub)) (Nat.le_trans (show (txtK cs 6).length ≤ 1000 by lia) (by decide))) (congrArg D.str ?_)) fun s₄ p₄ st₄ => k s₄ ((p₁.trans p₂).trans p₄) st₄
    rw [show (((txtK cs 6).length : Nat) : Int) - ((cs.getD 7 0 : Nat) : Int) % 2 = (((txtK cs 6).length - cv cs 7 % 2 : Nat) : Int) by unfold cv; lia, sl_to]
    rfl
end
end Mine
end
section
open PySem PySem.W PyProof.Rows
set_option Elab.async false
set_option linter.unusedVariables false
set_option maxRecDepth 100000
set_option pp.deepTerms false
set_option pp.deepTerms.threshold 4
namespace Mine
noncomputable abbrev lawL (w : World) (h₀ : Heap) (La : Addr) (q : Lx) (ds : List (Option D)) : Cx := (lawC w h₀ La ds).lay q.all
/-- what is left of the text -/
noncomputable def rsK (cs : List Nat) : Nat → List Nat
  | 0 => textOf cs
  | k + 1 => (startT (rsK cs k)).2
theorem text_len (cs : List Nat) : (textOf cs).length ≤ 42 := by
  have := (txt_len cs 6 (Nat.le_refl _)).2
  unfold textOf
  rw [List.length_take]; omega
theorem inT_len (stop : Nat → Bool) : ∀ (rs tok : List Nat), (inT stop tok rs).2.length ≤ rs.length
  | [], tok => by simp [inT]
  | [c], tok => by
    rw [inT]
    split
    · simp
    · split <;> simp
  | c :: c' :: r, tok => by
    rw [inT]
    split
    · simp
    · split
      · have := inT_len stop r (tok ++ [c']); simp only [List.length_cons]; lia
      · have := inT_len stop (c' :: r) (tok ++ [c]); simp only [List.length_cons] at this ⊢; lia
theorem startT_len : ∀ rs : List Nat, (startT rs).2.length ≤ rs.length
  | [] => by simp [startT]
  | c :: r => by
    rw [startT]
    split
    · have := startT_len r; simp only [List.length_cons]; lia
    · split
      · have := inT_len (· == 34) r []; simp only [List.length_cons]; lia
      · split
        · have := inT_len wsL.contains r.tail (r.take 1); rw [List.length_tail] at this; simp only [List.length_cons]; lia
        · have := inT_len wsL.contains r [c]; simp only [List.length_cons]; lia
theorem rsK_len (cs : List Nat) : ∀ k, (rsK cs k).length ≤ 42
  | 0 => text_len cs
  | k + 1 => Nat.le_trans (startT_len _) (rsK_len cs k)
section
variable {w : World} {h₀ : Heap}
theorem own107 {La : Addr} (ok : ∀ ds, Ok (lawC w h₀ La ds)) {s : Shared} {ds} (st : St (lawC w h₀ La ds) s) (h : ∀ b ∈ (lawC w h₀ La []).own, b ∉ ([107] : List Addr)) : 107 ∉ (lawC w h₀ La []).own := fun m => h _ m (by simp)
set_option maxHeartbeats 4000000 in
/-- the lexer is made -/
theorem segF (B : Base w h₀) {n : Nat} (hn : 4 ≤ n) {La l : Addr} {cs : List Nat} {A : Around} {s : Shared} {Q : Flow → Shared → Prop} {E : Value → Shared → Prop} (rm : Rm (n + 4) A)
    (ok : ∀ ds, Ok (lawC w h₀ La ds)) (hO : ∀ b ∈ (lawC w h₀ La []).own, b ∉ ([107] : List Addr)) (st : St (lawC w h₀ La [some (.ref l), some (natsD cs), none, none, some (.lst (keysD (keysOf (cv cs 6)))), some (judgeD (keysOf (cv cs 6))), some (thingsD cs), none, some (ordD (ordOf cs)), none, some (intsD (ranksOf cs)), some (strsD (namesOf cs)), some (.str (textOf cs)), none, none, none, none, none, none, none, none, none, none, none, none, none, none, none, none, none, none]) s) (h107 : s.heap.get? 107 = some (tabObj #[]))
    (k : ∀ q s', (∀ a ∈ q.all, s.heap.get? a = none) → Step ((lawC w h₀ La []).wr ++ [107]) [] s s' → (∀ ds, Ok (lawL w h₀ La q ds)) → (∀ a ∈ q.all, a ∉ (lawC w h₀ La []).X) → St (lawL w h₀ La q [some (.ref l), some (natsD cs), none, none, some (.lst (keysD (keysOf (cv cs 6)))), some (judgeD (keysOf (cv cs 6))), some (thingsD cs), none, some (ordD (ordOf cs)), none, some (intsD (ranksOf cs)), some (strsD (namesOf cs)), some (.str (textOf cs)), none, none, none, some (.ref q.x), none, none, none, none, none, none, none, none, none, none, none, none, none, none]) s' → LexAt w h₀ q (1 + (textOf cs).count 10) (textOf cs) [] s'.heap → GrownAt 107 s'.heap → wpAny (model prog w) A (execs ((lawB w).drop 12) (lawC w h₀ La []).env) Q E s') :
    wpAny (model prog w) A (execs ((lawB w).drop 11) (lawC w h₀ La []).env) Q E s := by
  rw [show (lawB w).drop 11 = _ :: (lawB w).drop 12 from rfl]
  revert k
  generalize (lawB w).drop 12 = rest
  intro k
  refine wpAny_execs_cons (wpAny_Assign_Name (wpAny_Call_ofName (evRun (c := lawC w h₀ La [some (.ref l), some (natsD cs), none, none, some (.lst (keysD (keysOf (cv cs 6)))), some (judgeD (keysOf (cv cs 6))), some (thingsD cs), none, some (ordD (ordOf cs)), none, some (intsD (ranksOf cs)), some (strsD (namesOf cs)), some (.str (textOf cs)), none, none, none, none, none, none, none, none, none, none, none, none, none, none, none, none, none, none]) (ok _) rm st (Ev.global (a := 112)) fun u s₁ p₁ r₁ => ?_)) (by rfl))
  obtain rfl := r₁.ref_inv
  refine callW (c := lawC w h₀ La [some (.ref l), some (natsD cs), none, none, some (.lst (keysD (keysOf (cv cs 6)))), some (judgeD (keysOf (cv cs 6))), some (thingsD cs), none, some (ordD (ordOf cs)), none, some (intsD (ranksOf cs)), some (strsD (namesOf cs)), some (.str (textOf cs)), none, none, none, none, none, none, none, none, none, none, none, none, none, none, none, none, none, none]) (n := n + 4) (ok _) (Kp.fn (ok _) (fun _ => by rfl)) (Evs.cons (Ev.name 12) .nil) rm (st.pure p₁) (fun us s₂ p₂ r₂ => ?_) rfl
  rw [RepL.cons_iff] at r₂; obtain ⟨y, r', rfl, au, bu⟩ := r₂
  rw [RepL.nil_iff] at bu; subst bu
  have st₂ := (st.pure p₁).pure p₂
  have p12 := p₁.trans p₂
  refine wpAny_call (lexer_fn B hn (textOf cs) (Nat.le_trans (text_len cs) (by decide)) A s₂ y _ E (rm.less (by lia)) st₂.old (p12.pure _ _ h107) au.str_inv fun q s₃ p₃ fq L₃ g₃ => ?_)
  have fqs : ∀ a ∈ q.all, s.heap.get? a = none := fun a m => none_of_ext p12 (fq a m)
  have nqX : ∀ a ∈ q.all, a ∉ (lawC w h₀ La []).X := fun a m z => by obtain ⟨o, g⟩ := st.low a z; rw [fqs a m] at g; cases g
  have okL : ∀ ds, Ok (lawL w h₀ La q ds) := fun ds => (ok ds).lay fun a m => L₃.new a m
  have low107 : Low [107] s₃.heap := by obtain ⟨ps, g⟩ := g₃; exact Low.cons g Low.nil
  have st₃ : St (lawL w h₀ La q [some (.ref l), some (natsD cs), none, none, some (.lst (keysD (keysOf (cv cs 6)))), some (judgeD (keysOf (cv cs 6))), some (thingsD cs), none, some (ordD (ordOf cs)), none, some (intsD (ranksOf cs)), some (strsD (namesOf cs)), some (.str (textOf cs)), none, none, none, none, none, none, none, none, none, none, none, none, none, none, none, none, none, none]) s₃ := St.layY st₂ p₃ (fun a m => List.mem_append_right _ m) hO (fun a o e m => by
    obtain rfl := mem1 m
    have e' : h₀.get? 107 = some o := e
    rw [B.no] at e'; cases e') low107 fq L₃.there
  refine store (c := lawL w h₀ La q [some (.ref l), some (natsD cs), none, none, some (.lst (keysD (keysOf (cv cs 6)))), some (judgeD (keysOf (cv cs 6))), some (thingsD cs), none, some (ordD (ordOf cs)), none, some (intsD (ranksOf cs)), some (strsD (namesOf cs)), some (.str (textOf cs)), none, none, none, none, none, none, none, none, none, none, none, none, none, none, none, none, none, none]) (d := .ref q.x) 16 rfl (okL _) st₃ Rep.ref' (.inr rfl) (by intro a h; cases h <;> repeat (first | exact Nat.le_refl _ | apply Nat.le_succ_of_le)) fun s₄ p₄ st₄ => ?_
  refine k q s₄ fqs (((p12.up.trans (p₃.wide fun a m => List.mem_append_right _ m))).trans (p₄.wide fun a m => List.mem_append_left _ m)) okL nqX st₄ (L₃.step p₄ fun a m z => nqX a m ((ok []).own a (Cx.wr_own z))) ?_
  obtain ⟨ps, g⟩ := g₃
  exact ⟨ps, p₄.ext _ _ (fun z => hO 107 (Cx.wr_own z) (by simp)) g⟩
end
end Mine
end
section
open PySem PySem.W PyProof.Rows
set_option Elab.async false
set_option linter.unusedVariables false
set_option maxRecDepth 100000
set_option pp.deepTerms false
set_option pp.deepTerms.threshold 4
namespace Mine
theorem St.fit' {c : Cx} {s : Shared} {ds' : List (Option D)} (st : St (c.wd ds') s) (h : Fits c.ds ds') : St c s := St.fit (c := c) (ds := c.ds) st h
theorem lexCallR {n : Nat} {c : Cx} {A : Around} {s : Shared} {E : Value → Shared → Prop} {q : Lx} {T : Int} {rs : List Nat} {ps : List (List Nat)} {x : Str} {pos : Pos} {w' : World} {env' : Env} {name : Str} {es : List Expr} {ds : List D} {f : Addr} {p apos : Pos} {Q : Value → Shared → Prop} (i : Nat) {sl'} (ok : Ok c) (rm : Rm n A) (st : St c s) (L : LexAt c.w c.h₀ q T rs ps s.heap) (ha : Evs n c es ds)
    (k : ∀ vs s₂, Pure s s₂ → St c s₂ → LexAt c.w c.h₀ q T rs ps s₂.heap → RepL c.X s₂.heap ds vs → wpAny (model prog w') A (call (.ref f) (.ref q.x :: vs)) Q E s₂)
    (he' : env' = c.env := by rfl) (hw' : w' = c.w := by rfl) (hline : (apos.endLine == pos.line) = true := by rfl) (hf : ∀ w, findIn (KF w) (.ref 101) name = some (some (.ref f)) := by intro _; rfl) (ht : ∀ w, typeIn (KF w) (.ref f) = some (.type "function") := by intro _; rfl) (kp : ∀ w, keepIn (KF w) (.ref f) = true := by intro _; rfl)
    (hsh : ∀ i h1 h2 h3 h4 t1 t2 t3 t4 t5 t6 m, shadowIn (some (dictOf (lxEs q i h1 h2 h3 h4 t1 t2 t3 t4 t5 t6) m)) name = some false := by intros; rfl)
    (hi : c.vs[i]? = some (x, sl') := by rfl) (hd : c.ds[i]? = some (some (.ref q.x)) := by rfl) (hx : (x == ("__debug__" : Str)) = false := by rfl) (hc : (x == ("__classdict__" : Str)) = false := by rfl)
    (hb : attributeBase (.Name x p) name c.env (eval (.Name x p) c.env) = eval (.Name x p) c.env := by rfl) (hfew : methodCallForm (es.length + 0) (backTo pos (starEach es c.env)) [] = true := by rfl) (hp : (starEach es c.env).any (·.1) = false := by rfl) :
    wpAny (model prog w') A (eval (.Call (.Attribute (.Name x p) name apos) es [] pos) env') Q E s := by
  subst he' hw'
  exact lexCall i ok rm st L ha k hline hf ht kp hsh hi hd hx hc hb hfew hp
theorem compCx_own {c : Cx} {sc : Scope} {cl : List (Str × Addr)} {is : List Nat} {fr : List (Str × Option Addr)} (H : CompOk c sc cl is fr) {N : Addr} {ds : List (Option D)} {io : List Addr} {a : Addr} (m : a ∈ ((compCx c sc cl fr N ds).lay io).own) : a ∈ compNew sc N ∨ a ∈ c.own := by
  rcases memc m with rfl | m
  · exact .inl (.tail _ (.head _))
  · have m' : a ∈ (scopeVs (N + 2) sc.names ++ fr).filterMap (·.2) := m
    rw [List.filterMap_append] at m'
    rcases List.mem_append.mp m' with m' | m'
    · exact .inl (.tail _ (.tail _ m'))
    · obtain ⟨⟨x, o⟩, hx, e⟩ := List.mem_filterMap.mp m'
      simp only at e; subst e
      exact .inr (H.own hx)
section
variable {w : World} {h₀ : Heap}
set_option maxHeartbeats 4000000 in
/-- the names are read -/
theorem segG (B : Base w h₀) {n : Nat} (hn : 4 ≤ n) {La l : Addr} {cs : List Nat} (htok : ∀ k, k < 6 → (startT (rsK cs k)).1 = (namesOf cs).getD k []) (hlast : startT (rsK cs 6) = ([], [])) (hasc : (textOf cs).all (· < 128) = true) {q : Lx} {A : Around} {s : Shared} {Q : Flow → Shared → Prop} {E : Value → Shared → Prop} (rm : Rm (n + 4) A)
    (ok : ∀ ds, Ok (lawC w h₀ La ds)) (okL : ∀ ds, Ok (lawL w h₀ La q ds)) (nqX : ∀ a ∈ q.all, a ∉ (lawC w h₀ La []).X) (st : St (lawL w h₀ La q [some (.ref l), some (natsD cs), none, none, some (.lst (keysD (keysOf (cv cs 6)))), some (judgeD (keysOf (cv cs 6))), some (thingsD cs), none, some (ordD (ordOf cs)), none, some (intsD (ranksOf cs)), some (strsD (namesOf cs)), some (.str (textOf cs)), none, none, none, some (.ref q.x), none, none, none, none, none, none, none, none, none, none, none, none, none, none]) s) (L : LexAt w h₀ q (1 + (textOf cs).count 10) (textOf cs) [] s.heap)
    (k : ∀ s', Step q.all [] s s' → St (lawL w h₀ La q [some (.ref l), some (natsD cs), none, none, some (.lst (keysD (keysOf (cv cs 6)))), some (judgeD (keysOf (cv cs 6))), some (thingsD cs), none, some (ordD (ordOf cs)), none, some (intsD (ranksOf cs)), some (strsD (namesOf cs)), some (.str (textOf cs)), none, none, none, some (.ref q.x), none, none, none, none, none, none, none, none, none, none, none, none, none, none]) s' → LexAt w h₀ q (1 + (textOf cs).count 10) [] [] s'.heap → wpAny (model prog w) A (execs ((lawB w).drop 13) (lawC w h₀ La []).env) Q E s') :
    wpAny (model prog w) A (execs ((lawB w).drop 12) (lawC w h₀ La []).env) Q E s := by
  rw [show (lawB w).drop 12 = _ :: (lawB w).drop 13 from rfl]
  revert k
  generalize (lawB w).drop 13 = rest
  intro k
  have nlen : (namesOf cs).length = 6 := by unfold namesOf; rw [List.length_map, List.length_range]
  have qX : ∀ a ∈ q.all, a ∈ (lawL w h₀ La q [some (.ref l), some (natsD cs), none, none, some (.lst (keysD (keysOf (cv cs 6)))), some (judgeD (keysOf (cv cs 6))), some (thingsD cs), none, some (ordD (ordOf cs)), none, some (intsD (ranksOf cs)), some (strsD (namesOf cs)), some (.str (textOf cs)), none, none, none, some (.ref q.x), none, none, none, none, none, none, none, none, none, none, none, none, none, none]).X := fun a m => List.mem_append_left _ m
  have qO : ∀ a ∈ q.all, a ∉ (lawL w h₀ La q [some (.ref l), some (natsD cs), none, none, some (.lst (keysD (keysOf (cv cs 6)))), some (judgeD (keysOf (cv cs 6))), some (thingsD cs), none, some (ordD (ordOf cs)), none, some (intsD (ranksOf cs)), some (strsD (namesOf cs)), some (.str (textOf cs)), none, none, none, some (.ref q.x), none, none, none, none, none, none, none, none, none, none, none, none, none, none]).own := fun a m z => nqX a m ((ok []).own a z)
  have q0 : ∀ a o, h₀.get? a = some o → a ∉ q.all := fun a o e m => by rw [L.new a m] at e; cases e
  refine wpAny_execs_cons (wpAny_If (wpAny_isTrue_BoolOp (wpAny_allTrue_Or_cons (wpAny_isTrue_Compare1 ?_ (by with_unfolding_all rfl)))))
  refine comp1 (c := lawL w h₀ La q [some (.ref l), some (natsD cs), none, none, some (.lst (keysD (keysOf (cv cs 6)))), some (judgeD (keysOf (cv cs 6))), some (thingsD cs), none, some (ordD (ordOf cs)), none, some (intsD (ranksOf cs)), some (strsD (namesOf cs)), some (.str (textOf cs)), none, none, none, some (.ref q.x), none, none, none, none, none, none, none, none, none, none, none, none, none, none]) (n := n + 4) (CompOk.of [16]) (by lia) ((namesOf cs).map D.str) (fun k => ((namesOf cs).take k).map D.str) q.all (fun k s => LexAt w h₀ q (1 + (textOf cs).count 10) (rsK cs k) [] s.heap) (okL _) rm st (EvI.lst (Ev.name 11)) rfl (fun k => ?_) qX qO
    (fun s p => L.pure p) (fun W gs hW k s' s'' hP p => hP.step p fun a m z => by obtain ⟨o, g⟩ := L.there a m; rw [hW a z] at g; cases g) ?_ ?_
  · rw [List.length_map, List.length_take]
    exact Nat.le_trans (Nat.min_le_right _ _) (Nat.le_trans (show (namesOf cs).length ≤ 1000 by lia) (by decide))
  · intro io N k d s' v Kn Ke E' hd hio okc stc hP _ rv kn ke
    rw [List.getElem?_map] at hd
    obtain ⟨nm, hm, rfl⟩ := Option.map_eq_some_iff.mp hd
    have hk6 : k < 6 := by have := (List.getElem?_eq_some_iff.mp hm).1; lia
    have hnm : (namesOf cs).getD k [] = nm := by rw [List.getD_eq_getElem?_getD, hm]; rfl
    have qio : ∀ a ∈ q.all, a ∉ io ++ compNew _ N := fun a m z => by obtain ⟨o, g⟩ := L.there a m; rw [hio a z] at g; cases g
    refine (Asg.name 1 : Asg (n + 4) _ _ _ _) okc A s' v _ E' rm stc rv fun s₁ p₁ st₁ => ?_
    refine wpAny_tests_nil ?_
    rw [if_pos rfl]
    have qown : ∀ {ds}, ∀ a ∈ q.all, a ∉ ((compCx (lawL w h₀ La q [some (.ref l), some (natsD cs), none, none, some (.lst (keysD (keysOf (cv cs 6)))), some (judgeD (keysOf (cv cs 6))), some (thingsD cs), none, some (ordD (ordOf cs)), none, some (intsD (ranksOf cs)), some (strsD (namesOf cs)), some (.str (textOf cs)), none, none, none, some (.ref q.x), none, none, none, none, none, none, none, none, none, none, none, none, none, none]) _ _ _ N ds).lay io).own := fun {ds} a m z => (compCx_own (CompOk.of [16]) z).elim (fun z => qio a m (List.mem_append_right _ z)) (qO a m)
    have L₁ := hP.step p₁ fun a m z => qown a m (Cx.wr_own z)
    refine lexCallR 2 (okc.wd _) rm st₁ L₁ .nil fun vs s₂ p₂ st₂ L₂ r₂ => ?_
    rw [RepL.nil_iff] at r₂; subst r₂
    refine wpAny_call (getToken B hn (Nat.le_trans (rsK_len cs k) (by decide)) (Nat.zero_le _) A s₂ _ _ rm st₂.old L₂ fun v₃ s₃ p₃ L₃ hv => ?_)
    obtain ⟨t, rfl⟩ := hv
    have st₃ := st₂.step p₃ (fun a m => List.mem_append_right _ (List.mem_append_right _ (qX a m))) (fun a m z => qown (ds := []) a z m) q0 L₃.there
    refine ke (.str nm) _ s₃ ?_ (St.fit' st₃ ?_) ((((p₁.wide fun a m => List.mem_append_left _ m).trans p₂.up)).trans (p₃.wide fun a m => List.mem_append_right _ m)) L₃ ?_
    · rw [List.take_add_one, hm, List.map_append]; rfl
    · repeat' first | exact trivial | refine And.intro rfl ?_
    · show Rep _ _ (.str nm) (.str ⟨(startT (rsK cs k)).1.toArray⟩ t)
      rw [htok k hk6, hnm]; exact Rep.str'
  · intro v s₁ p₁ st₁ L₁ r₁
    rw [List.length_map, nlen] at L₁
    rw [List.length_map, nlen, List.take_of_length_le (by lia)] at r₁
    have np : (strsD (namesOf cs)).plain = true := plain_lst fun u hu => plain_str (by
      obtain ⟨i, hi, e⟩ := List.getElem_of_mem hu
      have := baseN_ok _ (baseN_mem cs i (by lia))
      rw [List.getD_eq_getElem?_getD, List.getElem?_eq_getElem hi] at this
      rw [← e]; exact this.2)
    refine evRun (c := lawL w h₀ La q [some (.ref l), some (natsD cs), none, none, some (.lst (keysD (keysOf (cv cs 6)))), some (judgeD (keysOf (cv cs 6))), some (thingsD cs), none, some (ordD (ordOf cs)), none, some (intsD (ranksOf cs)), some (strsD (namesOf cs)), some (.str (textOf cs)), none, none, none, some (.ref q.x), none, none, none, none, none, none, none, none, none, none, none, none, none, none]) (okL _) rm st₁ (Ev.name 11) fun v₂ s₂ p₂ r₂ => ?_
    have st₂ := st₁.pure p₂
    refine op_neL (n := n + 4) Like.str.lst np np (by lia) _ A s₂ _ _ _ _ rm st₂.low (r₁.ext p₂.pure) r₂ fun v₃ s₃ p₃ r₃ => ?_
    rw [r₃.bool_inv, show (namesOf cs != namesOf cs) = false by simp]
    refine wpAny_truthy_bool ?_
    have st₃ := st₂.pure p₃
    have L₃ := (L₁.pure p₂).pure p₃
    refine wpAny_allTrue_Or_cons (wpAny_isTrue_Compare1 (lexCallR (c := lawL w h₀ La q [some (.ref l), some (natsD cs), none, none, some (.lst (keysD (keysOf (cv cs 6)))), some (judgeD (keysOf (cv cs 6))), some (thingsD cs), none, some (ordD (ordOf cs)), none, some (intsD (ranksOf cs)), some (strsD (namesOf cs)), some (.str (textOf cs)), none, none, none, some (.ref q.x), none, none, none, none, none, none, none, none, none, none, none, none, none, none]) 16 (okL _) rm st₃ L₃ .nil fun vs s₄ p₄ st₄ L₄ r₄ => ?_) (by with_unfolding_all rfl))
    rw [RepL.nil_iff] at r₄; subst r₄
    refine wpAny_call (getToken B hn (Nat.le_trans (rsK_len cs 6) (by decide)) (Nat.zero_le _) A s₄ _ _ rm st₄.old L₄ fun v₅ s₅ p₅ L₅ hv => ?_)
    have e5 : nextT (rsK cs 6) [] = ([], [], []) := by show ((startT (rsK cs 6)).1, (startT (rsK cs 6)).2, []) = _; rw [hlast]
    rw [e5] at L₅ hv
    obtain ⟨t, rfl⟩ := hv
    have st₅ := st₄.step p₅ qX (fun a m z => qO a z m) q0 L₅.there
    refine evRun (c := lawL w h₀ La q [some (.ref l), some (natsD cs), none, none, some (.lst (keysD (keysOf (cv cs 6)))), some (judgeD (keysOf (cv cs 6))), some (thingsD cs), none, some (ordD (ordOf cs)), none, some (intsD (ranksOf cs)), some (strsD (namesOf cs)), some (.str (textOf cs)), none, none, none, some (.ref q.x), none, none, none, none, none, none, none, none, none, none, none, none, none, none]) (okL _) rm st₅ Ev.kStr fun v₆ s₆ p₆ r₆ => ?_
    have st₆ := st₅.pure p₆
    refine op_nes (n := n + 4) (l := []) _ A s₆ _ _ _ _ rm st₆.low Rep.str' r₆ fun v₇ s₇ p₇ r₇ => ?_
    rw [r₇.bool_inv, show (([] : List Nat) != ("" : Str).cps.toList) = false by rfl]
    refine wpAny_truthy_bool ?_
    have st₇ := st₆.pure p₇
    have L₇ := (L₅.pure p₆).pure p₇
    refine wpAny_allTrue_Or_cons (wpAny_isTrue_Compare1 (lexGet (c := lawL w h₀ La q [some (.ref l), some (natsD cs), none, none, some (.lst (keysD (keysOf (cv cs 6)))), some (judgeD (keysOf (cv cs 6))), some (thingsD cs), none, some (ordD (ordOf cs)), none, some (intsD (ranksOf cs)), some (strsD (namesOf cs)), some (.str (textOf cs)), none, none, none, some (.ref q.x), none, none, none, none, none, none, none, none, none, none, none, none, none, none]) (n := n + 4) (v := fun i t5 _ => .int i t5) 16 (okL _) rm st₇ L₇ (fun t5 _ s₈ p₈ st₈ L₈ => ?_) (fun _ _ _ _ _ _ _ _ _ _ _ => by rfl)) (by with_unfolding_all rfl))
    refine evRun (c := lawL w h₀ La q [some (.ref l), some (natsD cs), none, none, some (.lst (keysD (keysOf (cv cs 6)))), some (judgeD (keysOf (cv cs 6))), some (thingsD cs), none, some (ordD (ordOf cs)), none, some (intsD (ranksOf cs)), some (strsD (namesOf cs)), some (.str (textOf cs)), none, none, none, some (.ref q.x), none, none, none, none, none, none, none, none, none, none, none, none, none, none]) (okL _) rm st₈ (Ev.bin (Ev.meth (T := "str") (id := "str.count") (d₀ := .str (textOf cs)) (ds := [.str [10]]) PySem.F.plainAttrs_str PySem.F.slot_str_count PySem.F.type_str_count mT_str (Ev.name 12) (.cons Ev.kStr .nil) (fn_count (Nat.lt_of_le_of_lt (text_len cs) (by decide)))) Ev.kInt op_add) fun v₉ s₉ p₉ r₉ => ?_
    have st₉ := st₈.pure p₉
    refine op_nei (n := n + 4) _ A s₉ _ _ _ _ rm st₉.low (Rep.int' (i := 1 + (textOf cs).count 10 - ([] : List Nat).count 10)) r₉ fun v₁₀ s₁₀ p₁₀ r₁₀ => ?_
    rw [r₁₀.bool_inv, show (((1 : Int) + (textOf cs).count 10 - ([] : List Nat).count 10) != ((textOf cs).count 10 : Int) + 1) = false by
      simp only [List.count_nil, bne_eq_false_iff_eq]; lia]
    refine wpAny_truthy_bool (wpAny_allTrue_Or_nil ?_)
    refine sNil ?_
    have pz := (((p₁.trans (p₂.trans p₃).up).trans p₄.up).trans p₅).trans (((p₆.trans p₇).trans p₈).trans (p₉.trans p₁₀)).up
    exact k s₁₀ pz (st₉.pure p₁₀) ((L₈.pure p₉).pure p₁₀)
end
end Mine
end
section
open PySem PySem.W PyProof.Rows
set_option Elab.async false
set_option linter.unusedVariables false
set_option maxRecDepth 100000
set_option pp.deepTerms false
set_option pp.deepTerms.threshold 4
namespace Mine
theorem Fn.up {k n : Nat} {w : World} {h₀ : Heap} {f : Value} {args : List D} {d : D} (h : Fn k w h₀ f args d) (hk : k ≤ n) : Fn n w h₀ f args d := fun X A s vs Q E rm => h X A s vs Q E (rm.less hk)
noncomputable def treeS (cs : List Nat) : List Nat := treeT (fun k => (ranksOf cs).getD k 0) 6 [0, 1, 2, 3, 4, 5]
noncomputable def treeU (cs : List Nat) : List (List Nat) := (treeS cs).map (unitOf (namesOf cs))
noncomputable def remL : List (List Nat) := [[], [34, 40, 34], [34, 40, 34, 34, 41, 34], [34, 92, 34, 41, 34]]
noncomputable def remOf (cs : List Nat) : List Nat := remL.getD (cv cs 7 / 5 % 4) []
theorem remOf_mem (cs : List Nat) : remOf cs ∈ remL := by
  unfold remOf
  have : cv cs 7 / 5 % 4 < remL.length := Nat.mod_lt _ (by decide)
  rw [List.getD_eq_getElem?_getD, List.getElem?_eq_getElem this]
  exact List.getElem_mem _
theorem remL_ok : ∀ r ∈ remL, r.length ≤ 6 ∧ r.all (· < 128) = true := by decide
theorem treeS_len (cs : List Nat) : (treeS cs).length ≤ 18 := treeT_len _ 6 [0, 1, 2, 3, 4, 5]
theorem names_ok (cs : List Nat) : ∀ u ∈ namesOf cs, u ∈ baseN := by
  intro u hu
  obtain ⟨i, hi, e⟩ := List.getElem_of_mem hu
  have := baseN_mem cs i (by have h : (namesOf cs).length = 6 := by unfold namesOf; rw [List.length_map, List.length_range]
                             lia)
  rw [List.getD_eq_getElem?_getD, List.getElem?_eq_getElem hi] at this
  rw [← e]; exact this
theorem unitOf_ok (cs : List Nat) (t : Nat) : (unitOf (namesOf cs) t).length ≤ 2 ∧ (unitOf (namesOf cs) t).all (· < 128) = true := by
  match t with
  | 0 => show ([40] : List Nat).length ≤ 2 ∧ ([40] : List Nat).all (· < 128) = true; exact ⟨by decide, by decide⟩
  | 1 => show ([41] : List Nat).length ≤ 2 ∧ ([41] : List Nat).all (· < 128) = true; exact ⟨by decide, by decide⟩
  | k + 2 =>
    show ((namesOf cs).getD k []).length ≤ 2 ∧ ((namesOf cs).getD k []).all (· < 128) = true
    rw [List.getD_eq_getElem?_getD]
    cases h : (namesOf cs)[k]? with
    | none => exact ⟨by decide, by decide⟩
    | some u => exact baseN_ok u (names_ok cs u (List.mem_of_getElem? h))
theorem units_ok (cs : List Nat) : ∀ ts : List Nat, (ts.map (unitOf (namesOf cs))).flatten.length ≤ 2 * ts.length ∧ (ts.map (unitOf (namesOf cs))).flatten.all (· < 128) = true
  | [] => ⟨by simp, by simp⟩
  | t :: ts => by
    have ih := units_ok cs ts
    have h := unitOf_ok cs t
    rw [List.map_cons, List.flatten_cons, List.length_append, List.length_cons, List.all_append, ih.2, h.2]
    exact ⟨by lia, rfl⟩
section
variable {w : World} {h₀ : Heap}
set_option maxHeartbeats 4000000 in
/-- the tree and its text -/
theorem segH (B : Base w h₀) {La l : Addr} {cs : List Nat} (hcs : cs.length = 8) (hb : ∀ x ∈ cs, x < 100000000) (hun : (allU (treeU cs).flatten).map (·.2) = treeU cs) (hc1 : checkV (remOf cs ++ (treeU cs).flatten) = true) (hc2 : checkV ((treeU cs).flatten.drop 1 ++ remOf cs ++ (treeU cs).flatten.take 1) = false) {q : Lx} {A : Around} {s : Shared} {Q : Flow → Shared → Prop} {E : Value → Shared → Prop} (rm : Rm 20 A)
    (ok : ∀ ds, Ok (lawC w h₀ La ds)) (okL : ∀ ds, Ok (lawL w h₀ La q ds)) (st : St (lawL w h₀ La q [some (.ref l), some (natsD cs), none, none, some (.lst (keysD (keysOf (cv cs 6)))), some (judgeD (keysOf (cv cs 6))), some (thingsD cs), none, some (ordD (ordOf cs)), none, some (intsD (ranksOf cs)), some (strsD (namesOf cs)), some (.str (textOf cs)), none, none, none, some (.ref q.x), none, none, none, none, none, none, none, none, none, none, none, none, none, none]) s)
    (k : ∀ s', Step (lawC w h₀ La []).wr [] s s' → St (lawL w h₀ La q [some (.ref l), some (natsD cs), none, none, some (.lst (keysD (keysOf (cv cs 6)))), some (judgeD (keysOf (cv cs 6))), some (thingsD cs), none, some (ordD (ordOf cs)), none, some (intsD (ranksOf cs)), some (strsD (namesOf cs)), some (.str (textOf cs)), none, none, none, some (.ref q.x), some (strsD (treeU cs)), some (.str (treeU cs).flatten), some (.str (remOf cs)), none, none, none, none, none, none, none, none, none, none, none]) s' → wpAny (model prog w) A (execs ((lawB w).drop 17) (lawC w h₀ La []).env) Q E s') :
    wpAny (model prog w) A (execs ((lawB w).drop 13) (lawC w h₀ La []).env) Q E s := by
  rw [show (lawB w).drop 13 = _ :: _ :: _ :: _ :: (lawB w).drop 17 from rfl]
  revert k
  generalize (lawB w).drop 17 = rest
  intro k
  have nlen : (namesOf cs).length = 6 := by unfold namesOf; rw [List.length_map, List.length_range]
  have rlen : (ranksOf cs).length = 6 := by unfold ranksOf; rw [List.length_map, List.length_take]; lia
  have tsl := treeS_len cs
  have ul : (treeU cs).length ≤ 18 := by unfold treeU; rw [List.length_map]; exact tsl
  obtain ⟨fl, fa⟩ : (treeU cs).flatten.length ≤ 36 ∧ (treeU cs).flatten.all (· < 128) = true := by
    have := units_ok cs (treeS cs)
    exact ⟨Nat.le_trans this.1 (by lia), this.2⟩
  have hrem := remL_ok _ (remOf_mem cs)
  have ua : ∀ u ∈ treeU cs, u.all (· < 128) = true := fun u hu => by
    obtain ⟨t, _, rfl⟩ := List.mem_map.mp hu
    exact (unitOf_ok cs t).2
  have big : ∀ m : Nat, m ≤ 1000 → m ≤ sizeLine := fun m h => Nat.le_trans h (by decide)
  refine sAssign (c := lawL w h₀ La q [some (.ref l), some (natsD cs), none, none, some (.lst (keysD (keysOf (cv cs 6)))), some (judgeD (keysOf (cv cs 6))), some (thingsD cs), none, some (ordD (ordOf cs)), none, some (intsD (ranksOf cs)), some (strsD (namesOf cs)), some (.str (textOf cs)), none, none, none, some (.ref q.x), none, none, none, none, none, none, none, none, none, none, none, none, none, none]) (n := 20) (d := strsD (treeU cs)) (ds' := [some (.ref l), some (natsD cs), none, none, some (.lst (keysD (keysOf (cv cs 6)))), some (judgeD (keysOf (cv cs 6))), some (thingsD cs), none, some (ordD (ordOf cs)), none, some (intsD (ranksOf cs)), some (strsD (namesOf cs)), some (.str (textOf cs)), none, none, none, some (.ref q.x), some (strsD (treeU cs)), none, none, none, none, none, none, none, none, none, none, none, none, none]) 17 (okL _) rm st (Ev.call (.cons (Ev.list (ds := [0, 1, 2, 3, 4, 5].map fun x : Nat => D.int x) (.cons Ev.kInt (.cons Ev.kInt (.cons Ev.kInt (.cons Ev.kInt (.cons Ev.kInt (.cons Ev.kInt .nil)))))) (by show 6 ≤ sizeLine; decide)) (.cons (Ev.name 10) (.cons (Ev.name 11) .nil))) (Fn.up (tree_fn B (ranksOf cs) (namesOf cs) rlen nlen 6 [0, 1, 2, 3, 4, 5] (by decide) (by decide) (by decide)) (by decide))) fun s₁ p₁ st₁ => ?_
  refine sSwap2 (c := lawL w h₀ La q [some (.ref l), some (natsD cs), none, none, some (.lst (keysD (keysOf (cv cs 6)))), some (judgeD (keysOf (cv cs 6))), some (thingsD cs), none, some (ordD (ordOf cs)), none, some (intsD (ranksOf cs)), some (strsD (namesOf cs)), some (.str (textOf cs)), none, none, none, some (.ref q.x), some (strsD (treeU cs)), none, none, none, none, none, none, none, none, none, none, none, none, none]) (n := 20) (d₁ := .str (treeU cs).flatten) (d₂ := .str (remOf cs)) (ds' := [some (.ref l), some (natsD cs), none, none, some (.lst (keysD (keysOf (cv cs 6)))), some (judgeD (keysOf (cv cs 6))), some (thingsD cs), none, some (ordD (ordOf cs)), none, some (intsD (ranksOf cs)), some (strsD (namesOf cs)), some (.str (textOf cs)), none, none, none, some (.ref q.x), some (strsD (treeU cs)), some (.str (treeU cs).flatten), some (.str (remOf cs)), none, none, none, none, none, none, none, none, none, none, none]) 18 19 (okL _) rm st₁ (Ev.tuple (.cons (Ev.meth (T := "str") (id := "str.join") (d₀ := .str []) (ds := [strsD (treeU cs)]) PySem.F.plainAttrs_str PySem.F.slot_str_join PySem.F.type_str_join mT_str Ev.kStr (.cons (Ev.name 17) .nil) (fn_join ?_)) (.cons ?_ .nil)) (by show 2 ≤ sizeLine; decide)) (fun s₂ p₂ st₂ => ?_)
  · rw [← List.length_flatten]; lia
  · exact Ev.atM (f := D.str) (l := remL) (k := cv cs 7 / 5 % 4) [] (Ev.list (.cons Ev.kStr (.cons Ev.kStr (.cons Ev.kStr (.cons Ev.kStr .nil)))) (by show 4 ≤ sizeLine; decide)) (Ev.cast (Ev.bin (Ev.bin (Ev.nats (Ev.name 1) Ev.kInt (k := 7) (by lia) (by lia)) Ev.kInt (op_div (by decide) (by decide))) Ev.kInt (op_mod (by decide))) (congrArg D.int (by show ((cv cs 7 : Nat) : Int) / 5 % 4 = _; lia))) (Nat.mod_lt _ (by decide)) (by decide)
  have up : (strsD (treeU cs)).plain = true := plain_lst fun u hu => plain_str (ua u hu)
  have ulen : (allU (treeU cs).flatten).length ≤ 1000 := by
    have := unitsP_len 0 false (treeU cs).flatten
    show (unitsP 0 false (treeU cs).flatten).length ≤ 1000
    lia
  refine sIf (c := lawL w h₀ La q [some (.ref l), some (natsD cs), none, none, some (.lst (keysD (keysOf (cv cs 6)))), some (judgeD (keysOf (cv cs 6))), some (thingsD cs), none, some (ordD (ordOf cs)), none, some (intsD (ranksOf cs)), some (strsD (namesOf cs)), some (.str (textOf cs)), none, none, none, some (.ref q.x), some (strsD (treeU cs)), some (.str (treeU cs).flatten), some (.str (remOf cs)), none, none, none, none, none, none, none, none, none, none, none]) (n := 20) (b := false) (okL _) rm st₂ (Tv.cmp (d₁ := strsD (treeU cs)) (d₂ := strsD (treeU cs)) (Ev.cast (Ev.lcA (f := unitD) (g := fun u : Nat × List Nat => .str u.2) (allU (treeU cs).flatten) (CompOk.of []) (by lia) (EvI.gen (by lia) (Ev.name 18) fa) ulen fun io N x hx => ?_) ?_) (Ev.name 17) ?_) (fun h => nomatch h) (fun _ s₃ p₃ st₃ => sNil ?_)
  · exact CTurn.all (Asg.tuple (.cons (.name 1) (.cons (.name 2) .nil))) (Ev.name 2)
  · refine Eq.trans ?_ (congrArg (fun l : List (List Nat) => D.lst (l.map D.str)) hun)
    show D.lst _ = D.lst _
    rw [List.map_map]; rfl
  · have := op_neL (n := 20) (w := w) Like.str.lst (a := treeU cs) (b := treeU cs) up up (by lia)
    rwa [show (treeU cs != treeU cs) = false by simp] at this
  have l1 : (remOf cs ++ (treeU cs).flatten).length ≤ 100 := by rw [List.length_append]; lia
  have a1 : (remOf cs ++ (treeU cs).flatten).all (· < 128) = true := by rw [List.all_append, hrem.2, fa]; rfl
  have l2 : ((treeU cs).flatten.drop 1 ++ remOf cs ++ (treeU cs).flatten.take 1).length ≤ 100 := by rw [List.length_append, List.length_append, List.length_drop, List.length_take]; lia
  have a2 : ((treeU cs).flatten.drop 1 ++ remOf cs ++ (treeU cs).flatten.take 1).all (· < 128) = true := by
    rw [List.all_append, List.all_append, hrem.2, Bool.and_true, Bool.and_eq_true]
    exact ⟨List.all_eq_true.mpr fun x hx => List.all_eq_true.mp fa x (List.mem_of_mem_drop hx), List.all_eq_true.mpr fun x hx => List.all_eq_true.mp fa x (List.mem_of_mem_take hx)⟩
  refine sIf (c := lawL w h₀ La q [some (.ref l), some (natsD cs), none, none, some (.lst (keysD (keysOf (cv cs 6)))), some (judgeD (keysOf (cv cs 6))), some (thingsD cs), none, some (ordD (ordOf cs)), none, some (intsD (ranksOf cs)), some (strsD (namesOf cs)), some (.str (textOf cs)), none, none, none, some (.ref q.x), some (strsD (treeU cs)), some (.str (treeU cs).flatten), some (.str (remOf cs)), none, none, none, none, none, none, none, none, none, none, none]) (n := 20) (b := false) (okL _) rm st₃ (Tv.cast (Tv.or (Tv.cmp (Ev.call (.cons (Ev.bin (Ev.name 19) (Ev.name 18) (op_adds (big _ ?_))) .nil) (Fn.up (check_fn (n := 9) B (by lia) _ a1 l1) (by decide))) Ev.kBool op_isNot_bool) (fun _ => Tv.cmp (Ev.call (.cons (Ev.bin (Ev.bin (Ev.cast (Ev.slcS (Ev.name 18) (.yes Ev.kInt) .no (big _ (by lia))) (congrArg D.str (sl_from 1 _))) (Ev.name 19) (op_adds (big _ ?_))) (Ev.cast (Ev.slcS (Ev.name 18) .no (.yes Ev.kInt) (big _ (by lia))) (congrArg D.str (sl_to 1 _))) (op_adds (big _ ?_))) .nil) (Fn.up (check_fn (n := 9) B (by lia) _ a2 l2) (by decide))) Ev.kBool op_isNot_bool)) (by rw [hc1, hc2]; rfl)) (fun h => nomatch h) (fun _ s₄ p₄ st₄ => sNil (k s₄ (((p₁.trans p₂).trans p₃.up).trans p₄.up) st₄))
  · lia
  · rw [List.length_drop]; lia
  · rw [List.length_append, List.length_drop, List.length_take]; lia
end
end Mine
end
section
open PySem PySem.W PyProof.Rows
set_option Elab.async false
set_option linter.unusedVariables false
set_option maxRecDepth 100000
set_option pp.deepTerms false
set_option pp.deepTerms.threshold 4
namespace Mine
noncomputable abbrev lawM (w : World) (h₀ : Heap) (La : Addr) (q : Lx) (N1 N2 N3 N4 : Addr) (ds : List (Option D)) : Cx := (lawL w h₀ La q ds).lay [N1, N2, N3, N4]
noncomputable def dsM (l : Addr) (cs : List Nat) (q : Lx) (N1 N2 N3 N4 : Addr) (nm : List Nat) : List (Option D) := [some (.ref l), some (natsD cs), none, none, some (.lst (keysD (keysOf (cv cs 6)))), some (judgeD (keysOf (cv cs 6))), some (thingsD cs), none, some (ordD (ordOf cs)), none, some (intsD (ranksOf cs)), some (strsD (namesOf cs)), some (.str (textOf cs)), some (.str nm), none, none, some (.ref q.x), some (strsD (treeU cs)), some (.str (treeU cs).flatten), some (.str (remOf cs)), some (.ref N1), some (.ref N2), some (.ref N3), some (.ref N4), none, none, none, none, none, none, none]
section
variable {n : Nat} {c : Cx} {A : Around} {s : Shared} {E : Value → Shared → Prop}
/-- a list display among things that are evaluated in turn: its list is new -/
theorem spl_list {es rest : List Expr} {lp pos : Pos} {ds : List D} {Q : List Value → Shared → Prop} (ok : Ok c) (rm : Rm n A) (st : St c s) (hes : Evs n c es ds) (hz : ds.length ≤ 1000)
    (k : ∀ N vs s', s.heap.get? N = none → Pure s s' → s'.heap.PlainList N vs.toArray → RepL c.X s'.heap ds vs → wpAny c.M A (spliced (backTo pos (starEach rest c.env))) (fun us s'' => Q (.ref N :: us) s'') E s')
    (hs : starEach (.List es lp :: rest) c.env = (false, eval (.List es lp) c.env) :: starEach rest c.env := by rfl) :
    wpAny c.M A (spliced (backTo pos (starEach (.List es lp :: rest) c.env))) Q E s := by
  rw [hs]
  refine Calls.spliced_cons ?_
  refine List_ (hes ok A s _ _ _ rm st fun vs s₁ p₁ r₁ => ?_)
  unfold newList
  refine wpAny_newObj_type ?_ (by show vs.toArray.size ≤ sizeLine; rw [List.size_toArray, r₁.length]; exact Nat.le_trans hz (by decide))
  have pp : Pure s₁ { s₁ with heap := s₁.heap.push { cls := .type "list", data := .seq vs.toArray } } := .push
  exact k _ vs _ (none_of_ext p₁ (get_size _)) (p₁.trans pp) ⟨_, Heap.get?_push_size _ rfl⟩ (r₁.ext pp.pure)
end
section
variable {w : World} {h₀ : Heap}
set_option maxHeartbeats 4000000 in
/-- the lists of the search -/
theorem segI (B : Base w h₀) {La l : Addr} {cs : List Nat} {q : Lx} {A : Around} {s : Shared} {Q : Flow → Shared → Prop} {E : Value → Shared → Prop} (rm : Rm 20 A)
    (ok : ∀ ds, Ok (lawC w h₀ La ds)) (okL : ∀ ds, Ok (lawL w h₀ La q ds)) (st : St (lawL w h₀ La q [some (.ref l), some (natsD cs), none, none, some (.lst (keysD (keysOf (cv cs 6)))), some (judgeD (keysOf (cv cs 6))), some (thingsD cs), none, some (ordD (ordOf cs)), none, some (intsD (ranksOf cs)), some (strsD (namesOf cs)), some (.str (textOf cs)), none, none, none, some (.ref q.x), some (strsD (treeU cs)), some (.str (treeU cs).flatten), some (.str (remOf cs)), none, none, none, none, none, none, none, none, none, none, none]) s)
    (k : ∀ N1 N2 N3 N4 s', (∀ a ∈ [N1, N2, N3, N4], s.heap.get? a = none) → [N1, N2, N3, N4].Nodup → Step (lawC w h₀ La []).wr [] s s' → (∀ ds, Ok (lawM w h₀ La q N1 N2 N3 N4 ds)) → St (lawM w h₀ La q N1 N2 N3 N4 (dsM l cs q N1 N2 N3 N4 [48, 49, 50, 51, 52, 53])) s' →
      LstS N1 [[48, 49, 50, 51, 52, 53]] s'.heap → LstS N2 [] s'.heap → LstS N3 [] s'.heap → LstS N4 [] s'.heap → wpAny (model prog w) A (execs ((lawB w).drop 18) (lawC w h₀ La []).env) Q E s') :
    wpAny (model prog w) A (execs ((lawB w).drop 17) (lawC w h₀ La []).env) Q E s := by
  rw [show (lawB w).drop 17 = _ :: (lawB w).drop 18 from rfl]
  revert k
  generalize (lawB w).drop 18 = rest
  intro k
  refine wpAny_execs_cons ?_
  refine Assign_Tuple ?_ (by rfl) (by rfl)
  refine Tuple_ ?_
  refine spl_list (c := lawL w h₀ La q [some (.ref l), some (natsD cs), none, none, some (.lst (keysD (keysOf (cv cs 6)))), some (judgeD (keysOf (cv cs 6))), some (thingsD cs), none, some (ordD (ordOf cs)), none, some (intsD (ranksOf cs)), some (strsD (namesOf cs)), some (.str (textOf cs)), none, none, none, some (.ref q.x), some (strsD (treeU cs)), some (.str (treeU cs).flatten), some (.str (remOf cs)), none, none, none, none, none, none, none, none, none, none, none]) (n := 20) (ds := [.str [48, 49, 50, 51, 52, 53]]) (okL _) rm st (.cons Ev.kStr .nil) (by decide) fun N1 v1 s₁ f1 p1 l1 r1 => ?_
  have st₁ := st.pure p1
  refine spl_list (c := lawL w h₀ La q [some (.ref l), some (natsD cs), none, none, some (.lst (keysD (keysOf (cv cs 6)))), some (judgeD (keysOf (cv cs 6))), some (thingsD cs), none, some (ordD (ordOf cs)), none, some (intsD (ranksOf cs)), some (strsD (namesOf cs)), some (.str (textOf cs)), none, none, none, some (.ref q.x), some (strsD (treeU cs)), some (.str (treeU cs).flatten), some (.str (remOf cs)), none, none, none, none, none, none, none, none, none, none, none]) (n := 20) (okL _) rm st₁ .nil (by decide) fun N2 v2 s₂ f2 p2 l2 r2 => ?_
  have st₂ := st₁.pure p2
  refine spl_list (c := lawL w h₀ La q [some (.ref l), some (natsD cs), none, none, some (.lst (keysD (keysOf (cv cs 6)))), some (judgeD (keysOf (cv cs 6))), some (thingsD cs), none, some (ordD (ordOf cs)), none, some (intsD (ranksOf cs)), some (strsD (namesOf cs)), some (.str (textOf cs)), none, none, none, some (.ref q.x), some (strsD (treeU cs)), some (.str (treeU cs).flatten), some (.str (remOf cs)), none, none, none, none, none, none, none, none, none, none, none]) (n := 20) (okL _) rm st₂ .nil (by decide) fun N3 v3 s₃ f3 p3 l3 r3 => ?_
  have st₃ := st₂.pure p3
  refine spl_list (c := lawL w h₀ La q [some (.ref l), some (natsD cs), none, none, some (.lst (keysD (keysOf (cv cs 6)))), some (judgeD (keysOf (cv cs 6))), some (thingsD cs), none, some (ordD (ordOf cs)), none, some (intsD (ranksOf cs)), some (strsD (namesOf cs)), some (.str (textOf cs)), none, none, none, some (.ref q.x), some (strsD (treeU cs)), some (.str (treeU cs).flatten), some (.str (remOf cs)), none, none, none, none, none, none, none, none, none, none, none]) (n := 20) (okL _) rm st₃ .nil (by decide) fun N4 v4 s₄ f4 p4 l4 r4 => ?_
  have st₄ := st₃.pure p4
  refine Evs.cons (c := lawL w h₀ La q [some (.ref l), some (natsD cs), none, none, some (.lst (keysD (keysOf (cv cs 6)))), some (judgeD (keysOf (cv cs 6))), some (thingsD cs), none, some (ordD (ordOf cs)), none, some (intsD (ranksOf cs)), some (strsD (namesOf cs)), some (.str (textOf cs)), none, none, none, some (.ref q.x), some (strsD (treeU cs)), some (.str (treeU cs).flatten), some (.str (remOf cs)), none, none, none, none, none, none, none, none, none, none, none]) (n := 20) Ev.kStr .nil rfl (okL _) A s₄ _ _ E rm st₄ fun us s₅ p5 r5 => ?_
  have st₅ := st₄.pure p5
  rw [RepL.cons_iff] at r5; obtain ⟨y, r', rfl, au, bu⟩ := r5
  rw [RepL.nil_iff] at bu; subst bu
  obtain ⟨ty, rfl⟩ := au.str_inv
  unfold newTuple
  refine wpAny_newObj_type ?_ (by show 5 ≤ sizeLine; decide)
  have p6 : Pure s₅ { s₅ with heap := s₅.heap.push { cls := .type "tuple", data := .seq ([.ref N1, .ref N2, .ref N3, .ref N4, .str ⟨[48, 49, 50, 51, 52, 53].toArray⟩ ty] : List Value).toArray } } := .push
  have gt : IsTup (s₅.heap.push { cls := .type "tuple", data := .seq ([.ref N1, .ref N2, .ref N3, .ref N4, .str ⟨[48, 49, 50, 51, 52, 53].toArray⟩ ty] : List Value).toArray }) s₅.heap.objs.size ([.ref N1, .ref N2, .ref N3, .ref N4, .str ⟨[48, 49, 50, 51, 52, 53].toArray⟩ ty] : List Value).toArray := ⟨_, Heap.get?_push_size _ rfl, rfl, 0, rfl⟩
  have ft := get_size s₅.heap
  have pall := ((((p1.trans p2).trans p3).trans p4).trans p5).trans p6
  have g1 : ∀ {a o}, s₁.heap.get? a = some o → s₅.heap.get? a = some o := fun g => ((p2.trans p3).trans (p4.trans p5)).pure _ _ g
  have g2 : ∀ {a o}, s₂.heap.get? a = some o → s₅.heap.get? a = some o := fun g => (p3.trans (p4.trans p5)).pure _ _ g
  have g3 : ∀ {a o}, s₃.heap.get? a = some o → s₅.heap.get? a = some o := fun g => (p4.trans p5).pure _ _ g
  have g4 : ∀ {a o}, s₄.heap.get? a = some o → s₅.heap.get? a = some o := fun g => p5.pure _ _ g
  obtain ⟨m1, h1⟩ := l1
  obtain ⟨m2, h2⟩ := l2
  obtain ⟨m3, h3⟩ := l3
  obtain ⟨m4, h4⟩ := l4
  have n12 : N1 ≠ N2 := fun e => by rw [e, f2] at h1; cases h1
  have n13 : N1 ≠ N3 := fun e => by have := p2.pure _ _ h1; rw [e, f3] at this; cases this
  have n14 : N1 ≠ N4 := fun e => by have := p3.pure _ _ (p2.pure _ _ h1); rw [e, f4] at this; cases this
  have n23 : N2 ≠ N3 := fun e => by rw [e, f3] at h2; cases h2
  have n24 : N2 ≠ N4 := fun e => by have := p3.pure _ _ h2; rw [e, f4] at this; cases this
  have n34 : N3 ≠ N4 := fun e => by rw [e, f4] at h3; cases h3
  have fs : ∀ a ∈ [N1, N2, N3, N4], s.heap.get? a = none := fun a m => by
    simp only [List.mem_cons, List.not_mem_nil, or_false] at m
    rcases m with rfl | rfl | rfl | rfl
    · exact f1
    · exact none_of_ext p1 f2
    · exact none_of_ext (p1.trans p2) f3
    · exact none_of_ext ((p1.trans p2).trans p3) f4
  have there : Low [N1, N2, N3, N4] s₅.heap := fun a m => by
    simp only [List.mem_cons, List.not_mem_nil, or_false] at m
    rcases m with rfl | rfl | rfl | rfl
    · exact ⟨_, g1 h1⟩
    · exact ⟨_, g2 h2⟩
    · exact ⟨_, g3 h3⟩
    · exact ⟨_, g4 h4⟩
  have h0fr : ∀ a, s.heap.get? a = none → h₀.get? a = none := fun a e => by
    cases e' : h₀.get? a with
    | none => rfl
    | some o => have := st.old _ _ e'; rw [e] at this; cases this
  have okM : ∀ ds, Ok (lawM w h₀ La q N1 N2 N3 N4 ds) := fun ds => (okL ds).lay fun a m => h0fr a (fs a m)
  have stM : St (lawM w h₀ La q N1 N2 N3 N4 [some (.ref l), some (natsD cs), none, none, some (.lst (keysD (keysOf (cv cs 6)))), some (judgeD (keysOf (cv cs 6))), some (thingsD cs), none, some (ordD (ordOf cs)), none, some (intsD (ranksOf cs)), some (strsD (namesOf cs)), some (.str (textOf cs)), none, none, none, some (.ref q.x), some (strsD (treeU cs)), some (.str (treeU cs).flatten), some (.str (remOf cs)), none, none, none, none, none, none, none, none, none, none, none]) _ := St.enter st pall fs (there.ext p6.pure)
  have tX : s₅.heap.objs.size ∉ (lawM w h₀ La q N1 N2 N3 N4 [some (.ref l), some (natsD cs), none, none, some (.lst (keysD (keysOf (cv cs 6)))), some (judgeD (keysOf (cv cs 6))), some (thingsD cs), none, some (ordD (ordOf cs)), none, some (intsD (ranksOf cs)), some (strsD (namesOf cs)), some (.str (textOf cs)), none, none, none, some (.ref q.x), some (strsD (treeU cs)), some (.str (treeU cs).flatten), some (.str (remOf cs)), none, none, none, none, none, none, none, none, none, none, none]).X := fun m => by
    rcases List.mem_append.mp m with m | m
    · obtain ⟨o, g⟩ := there _ m; rw [ft] at g; cases g
    · obtain ⟨o, g⟩ := st₅.low _ m; rw [ft] at g; cases g
  refine (Asg.tuple (.cons (.name 20) (.cons (.name 21) (.cons (.name 22) (.cons (.name 23) (.cons (.name 13) .nil))))) : Asg 20 (lawM w h₀ La q N1 N2 N3 N4 [some (.ref l), some (natsD cs), none, none, some (.lst (keysD (keysOf (cv cs 6)))), some (judgeD (keysOf (cv cs 6))), some (thingsD cs), none, some (ordD (ordOf cs)), none, some (intsD (ranksOf cs)), some (strsD (namesOf cs)), some (.str (textOf cs)), none, none, none, some (.ref q.x), some (strsD (treeU cs)), some (.str (treeU cs).flatten), some (.str (remOf cs)), none, none, none, none, none, none, none, none, none, none, none]) _ (.tup [.ref N1, .ref N2, .ref N3, .ref N4, .str [48, 49, 50, 51, 52, 53]]) _) (okM _) A _ _ _ E rm stM (Rep.tup' tX gt (.cons Rep.ref' (.cons Rep.ref' (.cons Rep.ref' (.cons Rep.ref' (.cons Rep.str' .nil)))))) fun s₇ p7 st₇ => ?_
  have nw : ∀ a ∈ [N1, N2, N3, N4], a ∉ (lawC w h₀ La []).wr := fun a m z => by
    obtain ⟨o, g⟩ := st.low a (List.mem_append_right _ ((ok []).own a (Cx.wr_own z)))
    rw [fs a m] at g; cases g
  refine k N1 N2 N3 N4 s₇ fs ?_ (pall.up.trans p7) okM st₇ ?_ ?_ ?_ ?_
  · simp [n12, n13, n14, n23, n24, n34]
  · refine LstS.step ⟨v1, ⟨m1, p6.pure _ _ (g1 h1)⟩, r1.flatAll fun d m => by obtain ⟨_, _, rfl⟩ := List.mem_map.mp m; rfl⟩ p7 (nw _ (by simp))
  · rw [RepL.nil_iff] at r2; subst r2
    exact LstS.step ⟨[], ⟨m2, p6.pure _ _ (g2 h2)⟩, .nil⟩ p7 (nw _ (by simp))
  · rw [RepL.nil_iff] at r3; subst r3
    exact LstS.step ⟨[], ⟨m3, p6.pure _ _ (g3 h3)⟩, .nil⟩ p7 (nw _ (by simp))
  · rw [RepL.nil_iff] at r4; subst r4
    exact LstS.step ⟨[], ⟨m4, p6.pure _ _ (g4 h4)⟩, .nil⟩ p7 (nw _ (by simp))
end
end Mine
end
section
open PySem PySem.W PyProof.Rows
set_option Elab.async false
set_option linter.unusedVariables false
set_option maxRecDepth 100000
set_option pp.deepTerms false
set_option pp.deepTerms.threshold 4
namespace Mine
/-- a word's text -/
noncomputable def strW (w : List Nat) : List Nat := w.map (48 + ·)
noncomputable def movesOf (o : Nat → Nat → Int) (w : List Nat) : List Nat := (List.range 5).filter (freeB o w)
noncomputable def swapW (w : List Nat) (k : Nat) : List Nat := w.take k ++ [w.getD (k + 1) 0, w.getD k 0] ++ w.drop (k + 2)
noncomputable def pushW (st : List (List Nat) × List (List Nat)) (other : List Nat) : List (List Nat) × List (List Nat) := if st.1.contains other then st else (st.1 ++ [other], st.2 ++ [other])
noncomputable def invW (w : List Nat) : Nat := (((List.range 6).map fun k => (w.drop (k + 1)).filter fun later => decide (later < w.getD k 0)).map List.length).sum
structure Bf where
  name : List Nat
  seen : List (List Nat)
  queue : List (List Nat)
  came : List Nat
  low : List (List Nat)
  high : List (List Nat)
noncomputable def upB (o : Nat → Nat → Int) (w : List Nat) : Bool := ((movesOf o w).filter fun k => decide (o (w.getD k 0) (w.getD (k + 1) 0) > 0)).isEmpty
noncomputable def dnB (o : Nat → Nat → Int) (w : List Nat) : Bool := ((movesOf o w).filter fun k => decide (o (w.getD k 0) (w.getD (k + 1) 0) < 0)).isEmpty
noncomputable def stepB (o : Nat → Nat → Int) (b : Bf) : Bf :=
  let sq := ((movesOf o b.name).map (swapW b.name)).foldl pushW (b.seen, b.queue)
  { name := sq.2.headD [], seen := sq.1, queue := sq.2.tail, came := b.came ++ [invW b.name], low := if upB o b.name then b.low ++ [b.name] else b.low, high := if dnB o b.name then b.high ++ [b.name] else b.high }
noncomputable def bfJ (o : Nat → Nat → Int) : Nat → Bf
  | 0 => ⟨[0, 1, 2, 3, 4, 5], [[0, 1, 2, 3, 4, 5]], [], [], [], []⟩
  | j + 1 => stepB o (bfJ o j)
noncomputable def WordOk (w : List Nat) : Prop := w.length = 6 ∧ ∀ x ∈ w, x < 6
noncomputable def dsW (l : Addr) (cs : List Nat) (q : Lx) (N1 N2 N3 N4 : Addr) (nm wd mv : List Nat) : List (Option D) := [some (.ref l), some (natsD cs), none, none, some (.lst (keysD (keysOf (cv cs 6)))), some (judgeD (keysOf (cv cs 6))), some (thingsD cs), none, some (ordD (ordOf cs)), none, some (intsD (ranksOf cs)), some (strsD (namesOf cs)), some (.str (textOf cs)), some (.str nm), none, none, some (.ref q.x), some (strsD (treeU cs)), some (.str (treeU cs).flatten), some (.str (remOf cs)), some (.ref N1), some (.ref N2), some (.ref N3), some (.ref N4), some (natsD wd), some (natsD mv), none, none, none, none, none]
noncomputable def lawW (w : World) : List Stmt := match (lawB w).drop 18 with
  | .While _ b _ _ :: _ => b
  | _ => []
section
variable {w : World} {h₀ : Heap}
set_option maxHeartbeats 4000000 in
/-- the word and its moves -/
theorem bodyA (B : Base w h₀) {La l : Addr} {cs : List Nat} {q : Lx} {N1 N2 N3 N4 : Addr} {wd : List Nat} (hw : WordOk wd) {A : Around} {s : Shared} {Q : Flow → Shared → Prop} {E : Value → Shared → Prop} (rm : Rm 20 A)
    (okM : ∀ ds, Ok (lawM w h₀ La q N1 N2 N3 N4 ds)) (st : St (lawM w h₀ La q N1 N2 N3 N4 (dsM l cs q N1 N2 N3 N4 (strW wd))) s)
    (k : ∀ s', Step (lawC w h₀ La []).wr [] s s' → St (lawM w h₀ La q N1 N2 N3 N4 (dsW l cs q N1 N2 N3 N4 (strW wd) wd (movesOf (ordOf cs) wd))) s' → wpAny (model prog w) A (execs ((lawW w).drop 2) (lawC w h₀ La []).env) Q E s') :
    wpAny (model prog w) A (execs (lawW w) (lawC w h₀ La []).env) Q E s := by
  rw [show lawW w = _ :: _ :: (lawW w).drop 2 from rfl]
  revert k
  generalize (lawW w).drop 2 = rest
  intro k
  obtain ⟨hl, hx⟩ := hw
  have sa : (strW wd).all (· < 128) = true := by
    unfold strW
    rw [List.all_eq_true]
    intro x m
    obtain ⟨y, hy, rfl⟩ := List.mem_map.mp m
    have := hx y hy
    simp; lia
  refine sAssign (c := lawM w h₀ La q N1 N2 N3 N4 (dsM l cs q N1 N2 N3 N4 (strW wd))) (n := 20) (d := natsD wd) (ds' := (fun nm => [some (.ref l), some (natsD cs), none, none, some (.lst (keysD (keysOf (cv cs 6)))), some (judgeD (keysOf (cv cs 6))), some (thingsD cs), none, some (ordD (ordOf cs)), none, some (intsD (ranksOf cs)), some (strsD (namesOf cs)), some (.str (textOf cs)), some (.str nm), none, none, some (.ref q.x), some (strsD (treeU cs)), some (.str (treeU cs).flatten), some (.str (remOf cs)), some (.ref N1), some (.ref N2), some (.ref N3), some (.ref N4), some (natsD wd), none, none, none, none, none, none]) (strW wd)) 24 (okM _) rm st (Ev.lcA (fun x : Nat => D.str [48 + x]) (fun x => D.int x) wd (CompOk.of []) (by lia) (EvI.cast (EvI.str (Ev.name 13) sa) ?_) (by lia) fun io N x hxm => ?_) fun s₁ p₁ st₁ => ?_
  · unfold strW; rw [List.map_map]; rfl
  · exact CTurn.all (.name 1) (Ev.callB boot_int Kp.type (.cons (Ev.name 1) .nil) (fn_int (Nat.lt_of_lt_of_le (hx x hxm) (by decide))))
  refine sAssignU (c := lawM w h₀ La q N1 N2 N3 N4 ((fun nm => [some (.ref l), some (natsD cs), none, none, some (.lst (keysD (keysOf (cv cs 6)))), some (judgeD (keysOf (cv cs 6))), some (thingsD cs), none, some (ordD (ordOf cs)), none, some (intsD (ranksOf cs)), some (strsD (namesOf cs)), some (.str (textOf cs)), some (.str nm), none, none, some (.ref q.x), some (strsD (treeU cs)), some (.str (treeU cs).flatten), some (.str (remOf cs)), some (.ref N1), some (.ref N2), some (.ref N3), some (.ref N4), some (natsD wd), none, none, none, none, none, none]) (strW wd))) (n := 20) (fun d => match d with | .int i => if freeB (ordOf cs) wd i.toNat then some (.int i) else none | _ => none) (ds' := dsW l cs q N1 N2 N3 N4 (strW wd) wd (movesOf (ordOf cs) wd)) 25 (okM _) rm (by lia) st₁ (CompOk.of [8, 24]) (EvI.range (k := 5) Ev.kInt (by decide)) (by decide) (fun io N d hd => ?_) (fun s₂ p₂ st₂ => k s₂ (p₁.trans p₂) st₂) rfl ?_
  · obtain ⟨i, hi, rfl⟩ := List.mem_map.mp hd
    have hi5 := List.mem_range.mp hi
    have e : ((i : Nat) : Int).toNat = i := Int.toNat_natCast i
    show CTurn _ _ _ _ _ _ (if freeB (ordOf cs) wd ((i : Nat) : Int).toNat then _ else none)
    rw [e]
    exact CTurn.keep (.name 1) (Tv.val (Ev.call (.cons (Ev.name 3) (.cons (Ev.name 2) (.cons (Ev.name 1) .nil))) (Fn.up (free_fn (n := 4) B (by lia) (ordOf cs) wd i hl hx hi5) (by decide))) tr_bool) (fun _ => Ev.name 1)
  · rw [filterMap_sub (fun x : Nat => D.int x) (List.range 5) (freeB (ordOf cs) wd) _ (fun x _ => by show (if freeB (ordOf cs) wd ((x : Nat) : Int).toNat then _ else none) = _; rw [Int.toNat_natCast])]
    rfl
end
end Mine
end
section
open PySem PySem.W PyProof.Rows
set_option Elab.async false
set_option linter.unusedVariables false
set_option maxRecDepth 100000
set_option pp.deepTerms false
set_option pp.deepTerms.threshold 4
namespace Mine
theorem strW_inj {a b : List Nat} (h : strW a = strW b) : a = b := by
  unfold strW at h
  exact (List.map_inj_right (fun x y e => by lia)).mp h
theorem strW_contains (sn : List (List Nat)) (o : List Nat) : (sn.map strW).contains (strW o) = sn.contains o := by
  induction sn with
  | nil => rfl
  | cons a sn ih =>
    rw [List.map_cons, List.contains_cons, List.contains_cons, ih]
    congr 1
    rw [Bool.eq_iff_iff]
    simp only [beq_iff_eq]
    exact ⟨strW_inj, fun e => by rw [e]⟩
theorem strW_swap (w : List Nat) (k : Nat) : (strW w).take k ++ [48 + w.getD (k + 1) 0] ++ [48 + w.getD k 0] ++ (strW w).drop (k + 2) = strW (swapW w k) := by
  unfold strW swapW
  rw [List.map_append, List.map_append, List.map_take, List.map_drop]
  simp
theorem pushW_len (st : List (List Nat) × List (List Nat)) (os : List (List Nat)) : (os.foldl pushW st).1.length ≤ st.1.length + os.length ∧ (os.foldl pushW st).2.length ≤ st.2.length + os.length := by
  induction os generalizing st with
  | nil => exact ⟨Nat.le_refl _, Nat.le_refl _⟩
  | cons o os ih =>
    rw [List.foldl_cons, List.length_cons]
    have := ih (pushW st o)
    have h2 : (pushW st o).1.length ≤ st.1.length + 1 ∧ (pushW st o).2.length ≤ st.2.length + 1 := by
      unfold pushW
      split
      · lia
      · simp
    lia
theorem St.fitW {c : Cx} {s : Shared} {ds ds' : List (Option D)} (st : St { c with ds := ds' } s) (h : Fits ds ds') : St { c with ds := ds } s := St.fit (c := c) (ds := ds) st h
/-- a test that reads a list that changes -/
theorem sIfF {n : Nat} {c : Cx} {A : Around} {s : Shared} {Q : Flow → Shared → Prop} {E : Value → Shared → Prop} {rest : List Stmt} {w' : World} {env' : Env} {pos : Pos} {t : Expr} {b : Bool} {body orelse : List Stmt} {a : Addr} {ds : List D} (i : Nat) (ok : Ok c) (rm : Rm n A) (st : St c s) (L : LstAt c.X a ds s.heap) (hao : a ∉ c.own) (ht : Tv n (c.frz a i ds) t b)
    (k1 : b = true → ∀ s', Pure s s' → St c s' → wpAny (model prog w') A (execs body env') (fun f s' => match f with | .next => wpAny (model prog w') A (execs rest env') Q E s' | f => Q f s') E s')
    (k2 : b = false → ∀ s', Pure s s' → St c s' → wpAny (model prog w') A (execs orelse env') (fun f s' => match f with | .next => wpAny (model prog w') A (execs rest env') Q E s' | f => Q f s') E s') (hi : c.ds[i]? = some (some (.ref a)) := by rfl) (he' : env' = c.env := by rfl) (hw' : w' = c.w := by rfl) :
    wpAny (model prog w') A (execs (.If t body orelse pos :: rest) env') Q E s := by
  subst he' hw'
  refine wpAny_execs_cons (wpAny_If (ht (ok.frz hao i ds) A s _ _ rm (st.frz L hi) fun s₁ p₁ => ?_))
  cases b with
  | true => exact k1 rfl s₁ p₁ (st.pure p₁)
  | false => exact k2 rfl s₁ p₁ (st.pure p₁)
section
variable {w : World} {h₀ : Heap}
set_option maxHeartbeats 4000000 in
/-- the moves are made -/
theorem bodyB (B : Base w h₀) {La l : Addr} {cs : List Nat} {q : Lx} {N1 N2 N3 N4 : Addr} {T : Int} {wd mv : List Nat} (hw : WordOk wd) (hmv : ∀ k ∈ mv, k < 5) (hml : mv.length ≤ 5) {sn qu : List (List Nat)} (hsn : sn.length ≤ 900) (hqu : qu.length ≤ 900) {A : Around} {s : Shared} {Q : Flow → Shared → Prop} {E : Value → Shared → Prop} (rm : Rm 20 A)
    (okM : ∀ ds, Ok (lawM w h₀ La q N1 N2 N3 N4 ds)) (hN : N1 ∉ (lawC w h₀ La []).own) (hNq : N1 ∉ q.all) (hq : ∀ a ∈ q.all, a ∉ (lawC w h₀ La []).own) (st : St (lawM w h₀ La q N1 N2 N3 N4 (dsW l cs q N1 N2 N3 N4 (strW wd) wd mv)) s)
    (S : LstS N1 (sn.map strW) s.heap) (L : LexAt w h₀ q T [] (qu.map strW) s.heap)
    (k : ∀ s', Step (N1 :: ((lawC w h₀ La []).wr ++ q.all)) [] s s' → St (lawM w h₀ La q N1 N2 N3 N4 (dsW l cs q N1 N2 N3 N4 (strW wd) wd mv)) s' → LstS N1 (((mv.map (swapW wd)).foldl pushW (sn, qu)).1.map strW) s'.heap → LexAt w h₀ q T [] (((mv.map (swapW wd)).foldl pushW (sn, qu)).2.map strW) s'.heap → wpAny (model prog w) A (execs ((lawW w).drop 3) (lawC w h₀ La []).env) Q E s') :
    wpAny (model prog w) A (execs ((lawW w).drop 2) (lawC w h₀ La []).env) Q E s := by
  rw [show (lawW w).drop 2 = _ :: (lawW w).drop 3 from rfl]
  revert k
  generalize (lawW w).drop 3 = rest
  intro k
  obtain ⟨hl, hx⟩ := hw
  have sl6 : (strW wd).length = 6 := by unfold strW; rw [List.length_map]; exact hl
  have big : ∀ m : Nat, m ≤ 1000 → m ≤ sizeLine := fun m h => Nat.le_trans h (by decide)
  have sget : ∀ i, i < 6 → (strW wd)[i]? = some (48 + wd.getD i 0) := fun i hi => by
    unfold strW
    rw [List.getElem?_map, List.getElem?_eq_getElem (by lia), List.getD_eq_getElem?_getD, List.getElem?_eq_getElem (by lia)]; rfl
  refine sFor (c := lawM w h₀ La q N1 N2 N3 N4 (dsW l cs q N1 N2 N3 N4 (strW wd) wd mv)) (n := 20) (mv.map fun x : Nat => D.int x) (fun _ => dsW l cs q N1 N2 N3 N4 (strW wd) wd mv) (N1 :: ((lawC w h₀ La []).wr ++ q.all))
    (fun i s => LstS N1 ((((mv.take i).map (swapW wd)).foldl pushW (sn, qu)).1.map strW) s.heap ∧ LexAt w h₀ q T [] ((((mv.take i).map (swapW wd)).foldl pushW (sn, qu)).2.map strW) s.heap) (fun _ _ => False)
    (okM _) rm (by lia) st (EvI.lst (Ev.name 25)) rfl (fun a m => .tail _ (List.mem_append_left _ m)) (fun a m => ?_) (fun s' p => ⟨S.step p (by simp), L.pure p⟩) (fun io hio i s' s'' gs hP p => ⟨hP.1.step p ?_, hP.2.step p ?_⟩) ?_ (fun _ _ _ h => h.elim) ?_
  · rcases memc m with rfl | m
    · exact .head _
    · rcases List.mem_append.mp m with m | m
      · exact List.mem_append_right _ (List.mem_append_right _ ((okM []).wr a m |> fun h => by
          exact (List.mem_append_left _ (Cx.wr_own m))))
      · exact List.mem_append_right _ (List.mem_append_left _ m)
  · exact fun m => by obtain ⟨o, g⟩ := S.there; rw [hio _ m] at g; cases g
  · exact fun a m z => by obtain ⟨o, g⟩ := L.there a m; rw [hio a z] at g; cases g
  · intro io i d A s₁ v Q E hd hio okT rm st₁ hP hst rv hk1 _
    rw [List.getElem?_map] at hd
    obtain ⟨kk, hkk, rfl⟩ := Option.map_eq_some_iff.mp hd
    have hk5 := hmv kk (List.mem_of_getElem? hkk)
    have tk : ((mv.take (i + 1)).map (swapW wd)).foldl pushW (sn, qu) = pushW (((mv.take i).map (swapW wd)).foldl pushW (sn, qu)) (swapW wd kk) := by
      rw [List.take_add_one, hkk, Option.toList_some, List.map_append, List.foldl_append]; rfl
    have pl := pushW_len (sn, qu) ((mv.take i).map (swapW wd))
    rw [List.length_map, List.length_take] at pl
    dsimp only at pl ⊢
    rw [tk] at hk1
    revert hP pl hk1
    generalize ((mv.take i).map (swapW wd)).foldl pushW (sn, qu) = sq
    rintro ⟨S₁, L₁⟩ hk1 pl
    have ownT : ∀ {ds}, ∀ a ∈ ((lawM w h₀ La q N1 N2 N3 N4 (dsW l cs q N1 N2 N3 N4 (strW wd) wd mv)).turn io ds).own, a ∈ (lawC w h₀ La []).own := fun a m => m
    have wrT : ∀ {ds}, ∀ a ∈ ((lawM w h₀ La q N1 N2 N3 N4 (dsW l cs q N1 N2 N3 N4 (strW wd) wd mv)).turn io ds).wr, a ∈ (lawC w h₀ La []).wr := fun a m => m
    have wideW : ∀ {s s' : Shared}, Step (lawC w h₀ La []).wr [] s s' → Step (N1 :: ((lawC w h₀ La []).wr ++ q.all)) [] s s' := fun p => p.wide fun a m => .tail _ (List.mem_append_left _ m)
    refine (Asg.name 9 : Asg 20 _ _ _ _) okT A s₁ v _ E rm st₁ rv fun s₂ p₂ st₂ => ?_
    refine sAssign (d := .str (strW (swapW wd kk))) 7 (okT.wd _) rm st₂ (Ev.cast (Ev.bin (Ev.bin (Ev.bin (Ev.cast (Ev.slcS (Ev.name 13) .no (.yes (Ev.name 9)) (big _ (by lia))) (congrArg D.str (sl_to kk _))) (Ev.atS (x := 48 + wd.getD (kk + 1) 0) (Ev.name 13) (Ev.bin (Ev.name 9) Ev.kInt op_add) (by lia) (by lia) ?_) (op_adds (big _ ?_))) (Ev.atS (x := 48 + wd.getD kk 0) (Ev.name 13) (Ev.name 9) (by lia) (by lia) ?_) (op_adds (big _ ?_))) (Ev.cast (Ev.slcS (Ev.name 13) (.yes (Ev.bin (Ev.name 9) Ev.kInt op_add)) .no (big _ (by lia))) (congrArg D.str (by rw [show ((kk : Nat) : Int) + 2 = ((kk + 2 : Nat) : Int) by lia]; exact sl_from (kk + 2) _))) (op_adds (big _ ?_))) (congrArg D.str (strW_swap wd kk))) fun s₃ p₃ st₃ => ?_
    · rw [show (((kk : Nat) : Int) + 1).toNat = kk + 1 by lia]; exact sget _ (by lia)
    · rw [List.length_take]; simp only [List.length_cons, List.length_nil]; lia
    · rw [Int.toNat_natCast]; exact sget _ (by lia)
    · rw [List.length_append, List.length_take]; simp only [List.length_cons, List.length_nil]; lia
    · rw [List.length_append, List.length_append, List.length_take, List.length_drop]; simp only [List.length_cons, List.length_nil]; lia
    have S₃ := (S₁.step p₂ (fun m => hN (Cx.wr_own m))).step p₃ (fun m => hN (Cx.wr_own m))
    have L₃ := (L₁.step p₂ (fun a m z => hq a m (Cx.wr_own z))).step p₃ (fun a m z => hq a m (Cx.wr_own z))
    refine sIfF 20 (okT.wd _) rm st₃ S₃.at (fun m => hN m) (Tv.cmp (Ev.name 7) (Ev.name 20) (op_notInL (ls := sq.1.map strW))) (fun hb s₄ p₄ st₄ => ?_) (fun hb s₄ p₄ st₄ => ?_)
    · rw [strW_contains] at hb
      have hc : sq.1.contains (swapW wd kk) = false := by simpa using hb
      have pw : pushW sq (swapW wd kk) = (sq.1 ++ [swapW wd kk], sq.2 ++ [swapW wd kk]) := by unfold pushW; rw [hc]; rfl
      rw [pw] at hk1
      have S₄ := S₃.step p₄ (by simp)
      have L₄ := L₃.pure p₄
      refine sAppend 20 (okT.wd _) rm st₄ S₄.at (List.mem_append_right _ (.head _)) (fun m => hN m) (by rw [List.length_map, List.length_map]; exact big _ (by lia)) (Ev.name 7) fun s₅ p₅ st₅ S₅ => ?_
      have L₅ := L₄.step p₅ (fun a m z => hNq (by obtain rfl := mem1 z; exact m))
      refine wpAny_execs_cons (wpAny_Expr_any (lexCallR 16 (okT.wd _) rm st₅ L₅ (.cons (Ev.name 7) .nil) fun vs s₆ p₆ st₆ L₆ r₆ => ?_) (by rfl) (by rfl))
      rw [RepL.cons_iff] at r₆; obtain ⟨y, r', rfl, au, bu⟩ := r₆
      rw [RepL.nil_iff] at bu; subst bu
      refine wpAny_call (pushToken (n := 4) B (by lia) (by rw [List.length_map]; lia) (strW (swapW wd kk)) A s₆ y _ _ (rm.less (by lia)) st₆.old L₆ au.str_inv fun v' s₇ p₇ L₇ => ?_)
      have st₇ := st₆.step p₇ (fun a m => List.mem_append_right _ (List.mem_append_right _ (List.mem_append_left _ m))) (fun a m z => hq a z m) (fun a o e m => by rw [L₆.new a m] at e; cases e) L₇.there
      have S₇ : LstS N1 ((sq.1 ++ [swapW wd kk]).map strW) s₇.heap := by
        have h5 := S₅
        rw [show ((sq.1.map strW).map D.str) ++ [D.str (strW (swapW wd kk))] = ((sq.1 ++ [swapW wd kk]).map strW).map D.str by simp] at h5
        exact ((LstS.of h5).step p₆ (by simp)).step p₇ hNq
      refine sNil (sNil (hk1 .next s₇ (.inl rfl) ?_ (St.fitW st₇ ?_) ⟨S₇, ?_⟩))
      · exact (((((wideW p₂).trans (wideW p₃)).trans p₄.up).trans (p₅.wide fun a m => by obtain rfl := mem1 m; exact .head _)).trans p₆.up).trans (p₇.wide fun a m => .tail _ (List.mem_append_right _ m))
      · repeat' first | exact trivial | refine And.intro rfl ?_
      · rw [List.map_append]; exact L₇
    · rw [strW_contains] at hb
      have hc : sq.1.contains (swapW wd kk) = true := by simpa using hb
      have pw : pushW sq (swapW wd kk) = sq := by unfold pushW; rw [hc]; rfl
      rw [pw] at hk1
      refine sNil (sNil (hk1 .next s₄ (.inl rfl) (((wideW p₂).trans (wideW p₃)).trans p₄.up) (St.fitW st₄ ?_) ⟨S₃.step p₄ (by simp), L₃.pure p₄⟩))
      repeat' first | exact trivial | refine And.intro rfl ?_
  · intro s₁ p₁ st₁ hP
    rw [List.length_map, List.take_length] at hP
    exact k s₁ p₁ st₁ hP.1 hP.2
end
end Mine
end
section
open PySem PySem.W PyProof.Rows
set_option Elab.async false
set_option linter.unusedVariables false
set_option maxRecDepth 100000
set_option pp.deepTerms false
set_option pp.deepTerms.threshold 4
namespace Mine
noncomputable def nameW (cs : List Nat) (w : List Nat) : List (List Nat) := w.map fun k => (namesOf cs).getD k []
noncomputable abbrev nmsD (cs : List Nat) (ws : List (List Nat)) : List D := ws.map fun w => strsD (nameW cs w)
theorem fm_if {α β : Type} (f : α → β) (p : α → Bool) (l : List α) : l.filterMap (fun x => if p x then some (f x) else none) = (l.filter p).map f := by
  induction l with
  | nil => rfl
  | cons a l ih =>
    rw [List.filterMap_cons, List.filter_cons]
    cases p a <;> simp [ih]
section
variable {w : World} {h₀ : Heap}
set_option maxHeartbeats 4000000 in
theorem bodyC1 (B : Base w h₀) {La l : Addr} {cs : List Nat} {q : Lx} {N1 N2 N3 N4 : Addr} {wd : List Nat} (hw : WordOk wd) {lo : List (List Nat)} (hlo : lo.length ≤ 900) {A : Around} {s : Shared} {Q : Flow → Shared → Prop} {E : Value → Shared → Prop} (rm : Rm 20 A)
    (okM : ∀ ds, Ok (lawM w h₀ La q N1 N2 N3 N4 ds)) (hN : N3 ∉ (lawC w h₀ La []).own) (st : St (lawM w h₀ La q N1 N2 N3 N4 (dsW l cs q N1 N2 N3 N4 (strW wd) wd (movesOf (ordOf cs) wd))) s)
    (L3 : LstAt (lawM w h₀ La q N1 N2 N3 N4 []).X N3 (nmsD cs lo) s.heap)
    (k : ∀ s', Step [N3] [] s s' → St (lawM w h₀ La q N1 N2 N3 N4 (dsW l cs q N1 N2 N3 N4 (strW wd) wd (movesOf (ordOf cs) wd))) s' → LstAt (lawM w h₀ La q N1 N2 N3 N4 []).X N3 (nmsD cs (if upB (ordOf cs) wd then lo ++ [wd] else lo)) s'.heap → wpAny (model prog w) A (execs ((lawW w).drop 4) (lawC w h₀ La []).env) Q E s') :
    wpAny (model prog w) A (execs ((lawW w).drop 3) (lawC w h₀ La []).env) Q E s := by
  rw [show (lawW w).drop 3 = _ :: (lawW w).drop 4 from rfl]
  revert k
  generalize (lawW w).drop 4 = rest
  intro k
  obtain ⟨hl, hx⟩ := hw
  have nlen : (namesOf cs).length = 6 := by unfold namesOf; rw [List.length_map, List.length_range]
  have ga : ∀ j, j < 6 → wd.getD j 0 < 6 := fun j hj => by
    rw [List.getD_eq_getElem?_getD, List.getElem?_eq_getElem (by lia)]; exact hx _ (List.getElem_mem _)
  have hmv : ∀ k ∈ movesOf (ordOf cs) wd, k < 5 := fun k hk => List.mem_range.mp (List.mem_filter.mp hk).1
  have hml : (movesOf (ordOf cs) wd).length ≤ 5 := Nat.le_trans (List.length_filter_le _ _) (by rw [List.length_range]; exact Nat.le_refl _)
  have big : ∀ m : Nat, m ≤ 1000 → m ≤ sizeLine := fun m h => Nat.le_trans h (by decide)
  have plainI : ∀ L : List Nat, (natsD L).plain = true := fun L => plain_lst fun _ _ => plain_int
  have e1 : (((movesOf (ordOf cs) wd).filter fun k => decide (ordOf cs (wd.getD k 0) (wd.getD (k + 1) 0) > 0)).map fun x : Nat => D.int x).isEmpty = upB (ordOf cs) wd := by unfold upB; rw [List.isEmpty_map]
  have m3 : N3 ∈ (lawM w h₀ La q N1 N2 N3 N4 []).X := .tail _ (.tail _ (.head _))
  refine sIf (c := lawM w h₀ La q N1 N2 N3 N4 (dsW l cs q N1 N2 N3 N4 (strW wd) wd (movesOf (ordOf cs) wd))) (n := 20) (b := upB (ordOf cs) wd) (okM _) rm st (Tv.cast (Tv.cmp (Ev.cast (Ev.lcM (fun x : Nat => D.int x) (fun k => if decide (ordOf cs (wd.getD k 0) (wd.getD (k + 1) 0) > 0) then some (D.int k) else none) (movesOf (ordOf cs) wd) (CompOk.of [8, 24]) (by lia) (EvI.lst (Ev.name 25)) (by lia) fun io N x hxm => CTurn.keep (.name 1) (Tv.cmp (Ev.ord (Ev.name 2) (Ev.nats (Ev.name 3) (Ev.name 1) (by have := hmv x hxm; lia) (by lia)) (Ev.nats (Ev.name 3) (Ev.bin (Ev.name 1) Ev.kInt op_add) (k := x + 1) (by have := hmv x hxm; lia) (by lia)) (ga _ (by have := hmv x hxm; lia)) (ga _ (by have := hmv x hxm; lia))) Ev.kInt op_gt) (fun _ => Ev.name 1)) (congrArg D.lst (fm_if (fun x : Nat => D.int x) (fun k => decide (ordOf cs (wd.getD k 0) (wd.getD (k + 1) 0) > 0)) _))) (Ev.list .nil) (op_eqNil (plainI _) (by lia))) e1) (fun hb s₁ p₁ st₁ => ?_) (fun hb s₁ p₁ st₁ => ?_)
  · have L3₁ := L3.ext p₁.pure
    refine sAppend (c := lawM w h₀ La q N1 N2 N3 N4 (dsW l cs q N1 N2 N3 N4 (strW wd) wd (movesOf (ordOf cs) wd))) (n := 20) (d := strsD (nameW cs wd)) 22 (okM _) rm st₁ L3₁ m3 hN (by rw [List.length_map]; exact big _ (by lia)) (Ev.cast (Ev.lcA (fun x : Nat => D.int x) (fun k => .str ((namesOf cs).getD k [])) wd (CompOk.of [11]) (by lia) (EvI.lst (Ev.name 24)) (by lia) fun io N x hxm => CTurn.all (.name 1) (Ev.atM (f := D.str) [] (Ev.name 2) (Ev.name 1) (by rw [nlen]; exact hx x hxm) (by lia))) (d := strsD (nameW cs wd)) (by show D.lst _ = D.lst _; congr 1; unfold nameW; rw [List.map_map]; rfl)) fun s₂ p₂ st₂ L3₂ => ?_
    refine sNil (k s₂ (p₁.up.trans p₂) st₂ ?_)
    rw [if_pos hb]; unfold nmsD; rw [List.map_append]; exact L3₂
  · refine sNil (k s₁ p₁.up st₁ ?_)
    rw [if_neg (by rw [hb]; decide)]; exact L3.ext p₁.pure
set_option maxHeartbeats 4000000 in
theorem bodyC2 (B : Base w h₀) {La l : Addr} {cs : List Nat} {q : Lx} {N1 N2 N3 N4 : Addr} {wd : List Nat} (hw : WordOk wd) {lo : List (List Nat)} (hlo : lo.length ≤ 900) {A : Around} {s : Shared} {Q : Flow → Shared → Prop} {E : Value → Shared → Prop} (rm : Rm 20 A)
    (okM : ∀ ds, Ok (lawM w h₀ La q N1 N2 N3 N4 ds)) (hN : N4 ∉ (lawC w h₀ La []).own) (st : St (lawM w h₀ La q N1 N2 N3 N4 (dsW l cs q N1 N2 N3 N4 (strW wd) wd (movesOf (ordOf cs) wd))) s)
    (L3 : LstAt (lawM w h₀ La q N1 N2 N3 N4 []).X N4 (nmsD cs lo) s.heap)
    (k : ∀ s', Step [N4] [] s s' → St (lawM w h₀ La q N1 N2 N3 N4 (dsW l cs q N1 N2 N3 N4 (strW wd) wd (movesOf (ordOf cs) wd))) s' → LstAt (lawM w h₀ La q N1 N2 N3 N4 []).X N4 (nmsD cs (if dnB (ordOf cs) wd then lo ++ [wd] else lo)) s'.heap → wpAny (model prog w) A (execs ((lawW w).drop 5) (lawC w h₀ La []).env) Q E s') :
    wpAny (model prog w) A (execs ((lawW w).drop 4) (lawC w h₀ La []).env) Q E s := by
  rw [show (lawW w).drop 4 = _ :: (lawW w).drop 5 from rfl]
  revert k
  generalize (lawW w).drop 5 = rest
  intro k
  obtain ⟨hl, hx⟩ := hw
  have nlen : (namesOf cs).length = 6 := by unfold namesOf; rw [List.length_map, List.length_range]
  have ga : ∀ j, j < 6 → wd.getD j 0 < 6 := fun j hj => by
    rw [List.getD_eq_getElem?_getD, List.getElem?_eq_getElem (by lia)]; exact hx _ (List.getElem_mem _)
  have hmv : ∀ k ∈ movesOf (ordOf cs) wd, k < 5 := fun k hk => List.mem_range.mp (List.mem_filter.mp hk).1
  have hml : (movesOf (ordOf cs) wd).length ≤ 5 := Nat.le_trans (List.length_filter_le _ _) (by rw [List.length_range]; exact Nat.le_refl _)
  have big : ∀ m : Nat, m ≤ 1000 → m ≤ sizeLine := fun m h => Nat.le_trans h (by decide)
  have plainI : ∀ L : List Nat, (natsD L).plain = true := fun L => plain_lst fun _ _ => plain_int
  have e1 : (((movesOf (ordOf cs) wd).filter fun k => decide (ordOf cs (wd.getD k 0) (wd.getD (k + 1) 0) < 0)).map fun x : Nat => D.int x).isEmpty = dnB (ordOf cs) wd := by unfold dnB; rw [List.isEmpty_map]
  have m3 : N4 ∈ (lawM w h₀ La q N1 N2 N3 N4 []).X := .tail _ (.tail _ (.tail _ (.head _)))
  refine sIf (c := lawM w h₀ La q N1 N2 N3 N4 (dsW l cs q N1 N2 N3 N4 (strW wd) wd (movesOf (ordOf cs) wd))) (n := 20) (b := dnB (ordOf cs) wd) (okM _) rm st (Tv.cast (Tv.cmp (Ev.cast (Ev.lcM (fun x : Nat => D.int x) (fun k => if decide (ordOf cs (wd.getD k 0) (wd.getD (k + 1) 0) < 0) then some (D.int k) else none) (movesOf (ordOf cs) wd) (CompOk.of [8, 24]) (by lia) (EvI.lst (Ev.name 25)) (by lia) fun io N x hxm => CTurn.keep (.name 1) (Tv.cmp (Ev.ord (Ev.name 2) (Ev.nats (Ev.name 3) (Ev.name 1) (by have := hmv x hxm; lia) (by lia)) (Ev.nats (Ev.name 3) (Ev.bin (Ev.name 1) Ev.kInt op_add) (k := x + 1) (by have := hmv x hxm; lia) (by lia)) (ga _ (by have := hmv x hxm; lia)) (ga _ (by have := hmv x hxm; lia))) Ev.kInt op_lt) (fun _ => Ev.name 1)) (congrArg D.lst (fm_if (fun x : Nat => D.int x) (fun k => decide (ordOf cs (wd.getD k 0) (wd.getD (k + 1) 0) < 0)) _))) (Ev.list .nil) (op_eqNil (plainI _) (by lia))) e1) (fun hb s₁ p₁ st₁ => ?_) (fun hb s₁ p₁ st₁ => ?_)
  · have L3₁ := L3.ext p₁.pure
    refine sAppend (c := lawM w h₀ La q N1 N2 N3 N4 (dsW l cs q N1 N2 N3 N4 (strW wd) wd (movesOf (ordOf cs) wd))) (n := 20) (d := strsD (nameW cs wd)) 23 (okM _) rm st₁ L3₁ m3 hN (by rw [List.length_map]; exact big _ (by lia)) (Ev.cast (Ev.lcA (fun x : Nat => D.int x) (fun k => .str ((namesOf cs).getD k [])) wd (CompOk.of [11]) (by lia) (EvI.lst (Ev.name 24)) (by lia) fun io N x hxm => CTurn.all (.name 1) (Ev.atM (f := D.str) [] (Ev.name 2) (Ev.name 1) (by rw [nlen]; exact hx x hxm) (by lia))) (d := strsD (nameW cs wd)) (by show D.lst _ = D.lst _; congr 1; unfold nameW; rw [List.map_map]; rfl)) fun s₂ p₂ st₂ L3₂ => ?_
    refine sNil (k s₂ (p₁.up.trans p₂) st₂ ?_)
    rw [if_pos hb]; unfold nmsD; rw [List.map_append]; exact L3₂
  · refine sNil (k s₁ p₁.up st₁ ?_)
    rw [if_neg (by rw [hb]; decide)]; exact L3.ext p₁.pure
end
end Mine
end
section
open PySem PySem.W PyProof.Rows
set_option Elab.async false
set_option linter.unusedVariables false
set_option maxRecDepth 100000
set_option pp.deepTerms false
set_option pp.deepTerms.threshold 4
namespace Mine
noncomputable def invBd (wd : List Nat) : D → List D
  | .int i => (wd.drop (i.toNat + 1)).map fun x : Nat => D.int x
  | _ => []
noncomputable def invFd (wd : List Nat) : D → D → Option D
  | .int i, .int j => if decide (j < (wd.getD i.toNat 0 : Nat)) then some (.int i) else none
  | _, _ => none
theorem inv_one (wd : List Nat) (k : Nat) : ((invBd wd (.int (k : Nat))).filterMap (invFd wd (.int (k : Nat)))).length = ((wd.drop (k + 1)).filter fun later => decide (later < wd.getD k 0)).length := by
  unfold invBd
  dsimp only
  rw [Int.toNat_natCast]
  induction wd.drop (k + 1) with
  | nil => rfl
  | cons a L ih =>
    rw [List.map_cons, List.filterMap_cons, List.filter_cons]
    have e : invFd wd (.int (k : Nat)) (.int (a : Nat)) = if decide (a < wd.getD k 0) then some (.int (k : Nat)) else none := by
      show (if decide (((a : Nat) : Int) < ((wd.getD ((k : Nat) : Int).toNat 0 : Nat) : Int)) then _ else none) = _
      rw [Int.toNat_natCast]
      by_cases h : a < wd.getD k 0
      · rw [if_pos (by simpa using h), if_pos (by simpa using h)]
      · rw [if_neg (by simpa using h), if_neg (by simpa using h)]
    rw [e]
    by_cases h : a < wd.getD k 0
    · rw [if_pos (by simpa using h), if_pos (by simpa using h)]
      simp only [List.length_cons]; rw [ih]
    · rw [if_neg (by simpa using h), if_neg (by simpa using h)]
      exact ih
theorem inv_len (wd : List Nat) : ((((List.range 6).map fun i : Nat => D.int i).map fun d => (invBd wd d).filterMap (invFd wd d)).flatten).length = invW wd := by
  rw [List.length_flatten, List.map_map, List.map_map]
  unfold invW
  rw [List.map_map]
  congr 1
  apply List.map_congr_left
  intro k _
  exact inv_one wd k
theorem invBd_len (wd : List Nat) (hl : wd.length = 6) (d : D) : (invBd wd d).length ≤ 6 := by
  cases d with
  | int i => show ((wd.drop (i.toNat + 1)).map fun x : Nat => D.int x).length ≤ 6; rw [List.length_map, List.length_drop]; omega
  | _ => exact Nat.zero_le _
theorem invB_len (wd : List Nat) (hl : wd.length = 6) : ∀ L : List D, ((L.map fun d => (invBd wd d).filterMap (invFd wd d)).flatten).length ≤ 6 * L.length
  | [] => Nat.le_refl _
  | d :: L => by
    rw [List.map_cons, List.flatten_cons, List.length_append, List.length_cons]
    have h1 := invB_len wd hl L
    have h2 := List.length_filterMap_le (invFd wd d) (invBd wd d)
    have h3 := invBd_len wd hl d
    lia
theorem nextT_queue (qu : List (List Nat)) : nextT [] (qu.map strW) = (strW (qu.headD []), [], qu.tail.map strW) := by
  cases qu with
  | nil => rfl
  | cons a qu => rfl
section
variable {w : World} {h₀ : Heap}
set_option maxHeartbeats 4000000 in
/-- how far it came; the next name -/
theorem bodyD (B : Base w h₀) {La l : Addr} {cs : List Nat} {q : Lx} {N1 N2 N3 N4 : Addr} {T : Int} {wd mv : List Nat} (hw : WordOk wd) {cm : List Nat} (hcm : cm.length ≤ 900) {qu : List (List Nat)} (hqu : qu.length ≤ 900) {A : Around} {s : Shared} {Q : Flow → Shared → Prop} {E : Value → Shared → Prop} (rm : Rm 20 A)
    (okM : ∀ ds, Ok (lawM w h₀ La q N1 N2 N3 N4 ds)) (hN : N2 ∉ (lawC w h₀ La []).own) (hNq : N2 ∉ q.all) (hq : ∀ a ∈ q.all, a ∉ (lawC w h₀ La []).own) (st : St (lawM w h₀ La q N1 N2 N3 N4 (dsW l cs q N1 N2 N3 N4 (strW wd) wd mv)) s)
    (L2 : LstAt (lawM w h₀ La q N1 N2 N3 N4 []).X N2 (cm.map fun x : Nat => D.int x) s.heap) (L : LexAt w h₀ q T [] (qu.map strW) s.heap)
    (k : ∀ s', Step (N2 :: ((lawC w h₀ La []).wr ++ q.all)) [] s s' → St (lawM w h₀ La q N1 N2 N3 N4 (dsM l cs q N1 N2 N3 N4 (strW (qu.headD [])))) s' → LstAt (lawM w h₀ La q N1 N2 N3 N4 []).X N2 ((cm ++ [invW wd]).map fun x : Nat => D.int x) s'.heap → LexAt w h₀ q T [] (qu.tail.map strW) s'.heap → Q .next s') :
    wpAny (model prog w) A (execs ((lawW w).drop 5) (lawC w h₀ La []).env) Q E s := by
  rw [show (lawW w).drop 5 = [_, _] from rfl]
  obtain ⟨hl, hx⟩ := hw
  have big : ∀ m : Nat, m ≤ 1000 → m ≤ sizeLine := fun m h => Nat.le_trans h (by decide)
  have m2 : N2 ∈ (lawM w h₀ La q N1 N2 N3 N4 []).X := .tail _ (.head _)
  have ga : ∀ j, j < 6 → wd.getD j 0 < 6 := fun j hj => by
    rw [List.getD_eq_getElem?_getD, List.getElem?_eq_getElem (by lia)]; exact hx _ (List.getElem_mem _)
  refine sAppend (c := lawM w h₀ La q N1 N2 N3 N4 (dsW l cs q N1 N2 N3 N4 (strW wd) wd mv)) (n := 20) (d := .int (invW wd : Nat)) 21 (okM _) rm st L2 m2 hN (by rw [List.length_map]; exact big _ (by lia)) (Ev.cast (Ev.callB Boot.len Kp.builtin (.cons (Ev.lc2 (items := (List.range 6).map fun i : Nat => D.int i) (invBd wd) (invFd wd) (CompOk.of [24]) (by lia) (EvI.range (k := 6) Ev.kInt (by decide)) ?_ ?_) .nil) (fn_len ?_)) (congrArg (fun n : Nat => D.int n) (inv_len wd))) fun s₁ p₁ st₁ L2₁ => ?_
  · intro k
    refine big _ ?_
    have h1 := invB_len wd hl ((((List.range 6).map fun i : Nat => D.int i)).take k)
    have h2 : ((((List.range 6).map fun i : Nat => D.int i)).take k).length ≤ 6 := by rw [List.length_take, List.length_map, List.length_range]; exact Nat.min_le_right _ _
    have h3 : (((List.range 6).map fun i : Nat => D.int i)[k]?.elim 0 fun d => (invBd wd d).length) ≤ 6 := by
      cases ((List.range 6).map fun i : Nat => D.int i)[k]? with
      | none => exact Nat.zero_le _
      | some d => exact invBd_len wd hl d
    lia
  · intro io N d hd
    obtain ⟨i, hi, rfl⟩ := List.mem_map.mp hd
    have hi6 := List.mem_range.mp hi
    refine ⟨_, Asg.name 1, ?_, EvI.lst (Ev.cast (Ev.slc (Ev.name 3) (.yes (Ev.bin (Ev.name 1) Ev.kInt op_add)) .no (by rw [List.length_map]; exact big _ (by lia))) (congrArg D.lst ?_)), fun io2 e he => ?_⟩
    · repeat' first | exact trivial | refine And.intro rfl ?_
    · show _ = (wd.drop (((i : Nat) : Int).toNat + 1)).map fun x : Nat => D.int x
      rw [Int.toNat_natCast, show ((i : Nat) : Int) + 1 = ((i + 1 : Nat) : Int) by lia, sl_from, List.map_drop]
    · obtain ⟨j, hj, rfl⟩ := List.mem_map.mp he
      show CTurn _ _ _ _ _ _ (if decide (((j : Nat) : Int) < ((wd.getD ((i : Nat) : Int).toNat 0 : Nat) : Int)) then some (D.int (i : Nat)) else none)
      rw [Int.toNat_natCast]
      exact CTurn.keep (.name 2) (Tv.cmp (Ev.name 2) (Ev.nats (Ev.name 3) (Ev.name 1) (by lia) (by lia)) op_lt) (fun _ => Ev.name 1)
  · have h1 := invB_len wd hl ((List.range 6).map fun i : Nat => D.int i)
    rw [List.length_map (as := List.range 6), List.length_range] at h1
    exact Nat.lt_of_le_of_lt h1 (by decide)
  have L₁ := L.step p₁ (fun a m z => hNq (by obtain rfl := mem1 z; exact m))
  refine wpAny_execs_cons (wpAny_Assign_Name (lexCallR (c := lawM w h₀ La q N1 N2 N3 N4 (dsW l cs q N1 N2 N3 N4 (strW wd) wd mv)) (n := 20) 16 (okM _) rm st₁ L₁ .nil fun vs s₂ p₂ st₂ L₂ r₂ => ?_) (by rfl))
  rw [RepL.nil_iff] at r₂; subst r₂
  refine wpAny_call (getToken (n := 4) B (by lia) (by decide) (by rw [List.length_map]; lia) A s₂ _ _ (rm.less (by lia)) st₂.old L₂ fun v s₃ p₃ L₃ hv => ?_)
  rw [nextT_queue] at L₃ hv
  obtain ⟨t, rfl⟩ := hv
  have st₃ := st₂.step p₃ (fun a m => List.mem_append_right _ (List.mem_append_left _ m)) (fun a m z => hq a z m) (fun a o e m => by rw [L₂.new a m] at e; cases e) L₃.there
  refine store (c := lawM w h₀ La q N1 N2 N3 N4 (dsW l cs q N1 N2 N3 N4 (strW wd) wd mv)) (d := .str (strW (qu.headD []))) 13 rfl (okM _) st₃ Rep.str' (.inl rfl) (fun _ h => nomatch h) fun s₄ p₄ st₄ => ?_
  refine sNil (k s₄ ?_ (St.fitW st₄ ?_) ?_ (L₃.step p₄ (fun a m z => hq a m (Cx.wr_own z))))
  · exact (((p₁.wide fun a m => by obtain rfl := mem1 m; exact .head _).trans p₂.up).trans (p₃.wide fun a m => .tail _ (List.mem_append_right _ m))).trans (p₄.wide fun a m => .tail _ (List.mem_append_left _ m))
  · repeat' first | exact trivial | refine And.intro rfl ?_
  · rw [List.map_append]
    refine ((L2₁.ext p₂.pure).extX p₃.ext hNq (fun b m => List.mem_append_right _ (List.mem_append_left _ m))).extX p₄.ext (fun m => hN (Cx.wr_own m)) (fun b m => (okM []).own b (Cx.wr_own m))
end
end Mine
end
section
open PySem PySem.W PyProof.Rows
set_option Elab.async false
set_option linter.unusedVariables false
set_option maxRecDepth 100000
set_option pp.deepTerms false
set_option pp.deepTerms.threshold 4
namespace Mine
theorem moves_len (o : Nat → Nat → Int) (w : List Nat) : (movesOf o w).length ≤ 5 ∧ ∀ k ∈ movesOf o w, k < 5 :=
  ⟨Nat.le_trans (List.length_filter_le _ _) (by rw [List.length_range]; exact Nat.le_refl _), fun k hk => List.mem_range.mp (List.mem_filter.mp hk).1⟩
theorem bf_len (o : Nat → Nat → Int) : ∀ j, (bfJ o j).seen.length ≤ 1 + 5 * j ∧ (bfJ o j).queue.length ≤ 5 * j ∧ (bfJ o j).came.length = j ∧ (bfJ o j).low.length ≤ j ∧ (bfJ o j).high.length ≤ j
  | 0 => by refine ⟨?_, ?_, ?_, ?_, ?_⟩ <;> simp [bfJ]
  | j + 1 => by
    obtain ⟨h1, h2, h3, h4, h5⟩ := bf_len o j
    have hp := pushW_len ((bfJ o j).seen, (bfJ o j).queue) ((movesOf o (bfJ o j).name).map (swapW (bfJ o j).name))
    rw [List.length_map] at hp
    have hm := (moves_len o (bfJ o j).name).1
    dsimp only at hp
    refine ⟨?_, ?_, ?_, ?_, ?_⟩
    · show (((movesOf o (bfJ o j).name).map (swapW (bfJ o j).name)).foldl pushW ((bfJ o j).seen, (bfJ o j).queue)).1.length ≤ _; lia
    · show (((movesOf o (bfJ o j).name).map (swapW (bfJ o j).name)).foldl pushW ((bfJ o j).seen, (bfJ o j).queue)).2.tail.length ≤ _
      rw [List.length_tail]; lia
    · show ((bfJ o j).came ++ [_]).length = _; rw [List.length_append, h3]; rfl
    · show (if upB o (bfJ o j).name then (bfJ o j).low ++ [(bfJ o j).name] else (bfJ o j).low).length ≤ _
      split
      · rw [List.length_append, List.length_singleton]; lia
      · lia
    · show (if dnB o (bfJ o j).name then (bfJ o j).high ++ [(bfJ o j).name] else (bfJ o j).high).length ≤ _
      split
      · rw [List.length_append, List.length_singleton]; lia
      · lia
section
variable {w : World} {h₀ : Heap}
/-- what the search holds -/
structure BfAt (w : World) (h₀ : Heap) (La : Addr) (q : Lx) (T : Int) (cs : List Nat) (N1 N2 N3 N4 : Addr) (b : Bf) (h : Heap) : Prop where
  S : LstS N1 (b.seen.map strW) h
  L : LexAt w h₀ q T [] (b.queue.map strW) h
  L2 : LstAt (lawM w h₀ La q N1 N2 N3 N4 []).X N2 (b.came.map fun x : Nat => D.int x) h
  L3 : LstAt (lawM w h₀ La q N1 N2 N3 N4 []).X N3 (nmsD cs b.low) h
  L4 : LstAt (lawM w h₀ La q N1 N2 N3 N4 []).X N4 (nmsD cs b.high) h
theorem BfAt.pure {La : Addr} {q : Lx} {T : Int} {cs : List Nat} {N1 N2 N3 N4 : Addr} {b : Bf} {s s' : Shared} (x : BfAt w h₀ La q T cs N1 N2 N3 N4 b s.heap) (p : Pure s s') : BfAt w h₀ La q T cs N1 N2 N3 N4 b s'.heap :=
  ⟨x.S.step p (by simp), x.L.pure p, x.L2.ext p.pure, x.L3.ext p.pure, x.L4.ext p.pure⟩
set_option maxHeartbeats 4000000 in
/-- the search -/
theorem segJ (B : Base w h₀) {La l : Addr} {cs : List Nat} {q : Lx} {N1 N2 N3 N4 : Addr} {T : Int} {N : Nat} (hN100 : N ≤ 100) (hname : ∀ j, j < N → WordOk (bfJ (ordOf cs) j).name) (hend : (bfJ (ordOf cs) N).name = []) {A : Around} {s : Shared} {Q : Flow → Shared → Prop} {E : Value → Shared → Prop} (rm : Rm 20 A)
    (okM : ∀ ds, Ok (lawM w h₀ La q N1 N2 N3 N4 ds)) (hN : ∀ a ∈ [N1, N2, N3, N4], a ∉ (lawC w h₀ La []).own ∧ a ∉ q.all) (nd : [N1, N2, N3, N4].Nodup) (hq : ∀ a ∈ q.all, a ∉ (lawC w h₀ La []).own) (st : St (lawM w h₀ La q N1 N2 N3 N4 (dsM l cs q N1 N2 N3 N4 [48, 49, 50, 51, 52, 53])) s)
    (b0 : BfAt w h₀ La q T cs N1 N2 N3 N4 (bfJ (ordOf cs) 0) s.heap)
    (k : ∀ s', Step ([N1, N2, N3, N4] ++ ((lawC w h₀ La []).wr ++ q.all)) [] s s' → St (lawM w h₀ La q N1 N2 N3 N4 (dsM l cs q N1 N2 N3 N4 [])) s' → BfAt w h₀ La q T cs N1 N2 N3 N4 (bfJ (ordOf cs) N) s'.heap → wpAny (model prog w) A (execs ((lawB w).drop 19) (lawC w h₀ La []).env) Q E s') :
    wpAny (model prog w) A (execs ((lawB w).drop 18) (lawC w h₀ La []).env) Q E s := by
  rw [show (lawB w).drop 18 = .While _ (lawW w) [] _ :: (lawB w).drop 19 from rfl]
  revert k
  generalize (lawB w).drop 19 = rest
  intro k
  simp only [List.nodup_cons, List.mem_cons, List.not_mem_nil, or_false, not_or] at nd
  obtain ⟨⟨n12, n13, n14⟩, ⟨n23, n24⟩, n34, _⟩ := nd
  have sub : ∀ a ∈ [N1, N2, N3, N4] ++ ((lawC w h₀ La []).wr ++ q.all), a ∈ (lawM w h₀ La q N1 N2 N3 N4 []).X := fun a m => by
    rcases List.mem_append.mp m with m | m
    · exact List.mem_append_left _ m
    · rcases List.mem_append.mp m with m | m
      · exact (okM []).own a (Cx.wr_own m)
      · exact List.mem_append_right _ (List.mem_append_left _ m)
  have H1 := hN N1 (by simp)
  have H2 := hN N2 (by simp)
  have H3 := hN N3 (by simp)
  have H4 := hN N4 (by simp)
  have wz : ∀ {Y : List Addr} {s s' : Shared}, (∀ a ∈ Y, a ∈ [N1, N2, N3, N4] ++ ((lawC w h₀ La []).wr ++ q.all)) → Step Y [] s s' → Step ([N1, N2, N3, N4] ++ ((lawC w h₀ La []).wr ++ q.all)) [] s s' := fun h p => p.wide h
  refine sWhile (c := lawM w h₀ La q N1 N2 N3 N4 (dsM l cs q N1 N2 N3 N4 [48, 49, 50, 51, 52, 53])) (n := 20) (fun j => dsM l cs q N1 N2 N3 N4 (strW (bfJ (ordOf cs) j).name)) N ([N1, N2, N3, N4] ++ ((lawC w h₀ La []).wr ++ q.all)) (fun j s => BfAt w h₀ La q T cs N1 N2 N3 N4 (bfJ (ordOf cs) j) s.heap)
    (okM _) rm st (fun a m => List.mem_append_right _ (List.mem_append_left _ m)) rfl b0 (fun j s s' h p => h.pure p) (fun j hj => ?_) ?_ ?_
  · refine Tv.cast (Tv.cmp (Ev.name 13) Ev.kStr op_nes) ?_
    rw [Bool.eq_iff_iff]
    rcases Nat.lt_or_ge j N with h | h
    · have h6 := (hname j h).1
      have e : strW (bfJ (ordOf cs) j).name ≠ [] := fun e => by
        have := congrArg List.length e
        unfold strW at this
        rw [List.length_map, h6] at this
        exact absurd this (by decide)
      simp only [decide_eq_true_eq]
      exact ⟨fun _ => h, fun _ => bne_iff_ne.mpr e⟩
    · have : j = N := by lia
      subst this
      rw [hend]
      simp only [decide_eq_true_eq]
      exact ⟨fun h' => absurd h' (by decide), fun h' => by lia⟩
  · intro j A s₁ Q E hj _ rm st₁ hP _ k1
    obtain ⟨S, L, L2, L3, L4⟩ := hP
    obtain ⟨b1, b2, b3, b4, b5⟩ := bf_len (ordOf cs) j
    have hw := hname j hj
    have hm := moves_len (ordOf cs) (bfJ (ordOf cs) j).name
    have wr1 : ∀ a ∈ (lawC w h₀ La []).wr, a ∈ [N1, N2, N3, N4] ++ ((lawC w h₀ La []).wr ++ q.all) := fun a m => List.mem_append_right _ (List.mem_append_left _ m)
    have nwr : ∀ {a}, a ∉ (lawC w h₀ La []).own → a ∉ (lawC w h₀ La []).wr := fun h m => h (Cx.wr_own m)
    have subw : ∀ b ∈ (lawC w h₀ La []).wr, b ∈ (lawM w h₀ La q N1 N2 N3 N4 []).X := fun b m => sub b (wr1 b m)
    refine bodyA B hw rm okM st₁ fun s₂ p₂ st₂ => ?_
    have hp := pushW_len ((bfJ (ordOf cs) j).seen, (bfJ (ordOf cs) j).queue) ((movesOf (ordOf cs) (bfJ (ordOf cs) j).name).map (swapW (bfJ (ordOf cs) j).name))
    rw [List.length_map] at hp
    dsimp only at hp
    refine bodyB B hw hm.2 hm.1 (sn := (bfJ (ordOf cs) j).seen) (qu := (bfJ (ordOf cs) j).queue) (by lia) (by lia) rm okM H1.1 H1.2 hq st₂ (S.step p₂ (nwr H1.1)) (L.step p₂ (fun a m z => hq a m (Cx.wr_own z))) fun s₃ p₃ st₃ S₃ L₃ => ?_
    have y3 : ∀ a ∈ N1 :: ((lawC w h₀ La []).wr ++ q.all), a ∈ [N1, N2, N3, N4] ++ ((lawC w h₀ La []).wr ++ q.all) := fun a m => by
      rcases memc m with rfl | m
      · exact .head _
      · exact List.mem_append_right _ m
    have y3n : ∀ {a}, a ≠ N1 → a ∉ (lawC w h₀ La []).own → a ∉ q.all → a ∉ N1 :: ((lawC w h₀ La []).wr ++ q.all) := fun h1 h2 h3 m => by
      rcases List.mem_cons.mp m with e | m
      · exact h1 e
      · exact (List.mem_append.mp m).elim (fun m => h2 (Cx.wr_own m)) h3
    have L2₃ := (L2.extX p₂.ext (nwr H2.1) subw).extX p₃.ext (y3n (Ne.symm n12) H2.1 H2.2) (fun b m => sub b (y3 b m))
    have L3₃ := (L3.extX p₂.ext (nwr H3.1) subw).extX p₃.ext (y3n (Ne.symm n13) H3.1 H3.2) (fun b m => sub b (y3 b m))
    have L4₃ := (L4.extX p₂.ext (nwr H4.1) subw).extX p₃.ext (y3n (Ne.symm n14) H4.1 H4.2) (fun b m => sub b (y3 b m))
    refine bodyC1 B hw (by lia) rm okM H3.1 st₃ L3₃ fun s₄ p₄ st₄ L3₄ => ?_
    have in3 : ∀ b ∈ [N3], b ∈ (lawM w h₀ La q N1 N2 N3 N4 []).X := fun b m => by obtain rfl := mem1 m; exact sub _ (by simp)
    have in4 : ∀ b ∈ [N4], b ∈ (lawM w h₀ La q N1 N2 N3 N4 []).X := fun b m => by obtain rfl := mem1 m; exact sub _ (by simp)
    have L4₄ := L4₃.extX p₄.ext (by simpa using Ne.symm n34) in3
    have L2₄ := L2₃.extX p₄.ext (by simpa using n23) in3
    have S₄ := S₃.step p₄ (by simpa using n13)
    have L₄ := L₃.step p₄ (fun a m z => H3.2 (by obtain rfl := mem1 z; exact m))
    refine bodyC2 B hw (by lia) rm okM H4.1 st₄ L4₄ fun s₅ p₅ st₅ L4₅ => ?_
    have L3₅ := L3₄.extX p₅.ext (by simpa using n34) in4
    have L2₅ := L2₄.extX p₅.ext (by simpa using n24) in4
    have S₅ := S₄.step p₅ (by simpa using n14)
    have L₅ := L₄.step p₅ (fun a m z => H4.2 (by obtain rfl := mem1 z; exact m))
    refine bodyD B hw (by lia) (qu := (((movesOf (ordOf cs) (bfJ (ordOf cs) j).name).map (swapW (bfJ (ordOf cs) j).name)).foldl pushW ((bfJ (ordOf cs) j).seen, (bfJ (ordOf cs) j).queue)).2) (by lia) rm okM H2.1 H2.2 hq st₅ L2₅ L₅ fun s₆ p₆ st₆ L2₆ L₆ => ?_
    have y6 : ∀ a ∈ N2 :: ((lawC w h₀ La []).wr ++ q.all), a ∈ [N1, N2, N3, N4] ++ ((lawC w h₀ La []).wr ++ q.all) := fun a m => by
      rcases memc m with rfl | m
      · exact .tail _ (.head _)
      · exact List.mem_append_right _ m
    have y6n : ∀ {a}, a ≠ N2 → a ∉ (lawC w h₀ La []).own → a ∉ q.all → a ∉ N2 :: ((lawC w h₀ La []).wr ++ q.all) := fun h1 h2 h3 m => by
      rcases List.mem_cons.mp m with e | m
      · exact h1 e
      · exact (List.mem_append.mp m).elim (fun m => h2 (Cx.wr_own m)) h3
    refine k1 .next s₆ (.inl rfl) ((((wz wr1 p₂).trans (wz y3 p₃)).trans (wz (fun a m => by obtain rfl := mem1 m; simp) p₄)).trans ((wz (fun a m => by obtain rfl := mem1 m; simp) p₅).trans (wz y6 p₆))) st₆ ⟨S₅.step p₆ (y6n n12 H1.1 H1.2), L₆, L2₆, L3₅.extX p₆.ext (y6n (Ne.symm n23) H3.1 H3.2) (fun b m => sub b (y6 b m)), L4₅.extX p₆.ext (y6n (Ne.symm n24) H4.1 H4.2) (fun b m => sub b (y6 b m))⟩
  · intro s₁ p₁ st₁ hP
    have st₂ : St (lawM w h₀ La q N1 N2 N3 N4 (dsM l cs q N1 N2 N3 N4 [])) s₁ := by
      have h := st₁
      rw [hend] at h
      exact h
    exact k s₁ p₁ st₂ hP
end
end Mine
end
section
open PySem PySem.W PyProof.Rows
set_option Elab.async false
set_option linter.unusedVariables false
set_option maxRecDepth 100000
set_option pp.deepTerms false
set_option pp.deepTerms.threshold 4
namespace Mine
noncomputable def dsZ (l : Addr) (cs : List Nat) (q : Lx) (b : Bf) : List (Option D) := [some (.ref l), some (natsD cs), none, none, some (.lst (keysD (keysOf (cv cs 6)))), some (judgeD (keysOf (cv cs 6))), some (thingsD cs), none, some (ordD (ordOf cs)), none, some (intsD (ranksOf cs)), some (strsD (namesOf cs)), some (.str (textOf cs)), none, none, none, some (.ref q.x), some (strsD (treeU cs)), some (.str (treeU cs).flatten), some (.str (remOf cs)), some (strsD (b.seen.map strW)), some (natsD b.came), some (.lst (nmsD cs b.low)), some (.lst (nmsD cs b.high)), none, none, none, none, none, none, none]
section
variable {w : World} {h₀ : Heap}
theorem filt_mem {X Y : List Addr} {N : Addr} (h : ∀ a ∈ Y, a ∈ X) (hN : N ∉ Y) : ∀ a ∈ Y, a ∈ X.filter (fun b => b != N) := fun a m => List.mem_filter.mpr ⟨h a m, by simp only [bne_iff_ne]; rintro rfl; exact hN m⟩
/-- the search's lists stand -/
theorem freezeAll {La l : Addr} {cs : List Nat} {q : Lx} {N1 N2 N3 N4 : Addr} {T : Int} {b : Bf} {nm : List Nat} {s : Shared} (hX : ∀ a ∈ [N1, N2, N3, N4], a ∉ (lawL w h₀ La q []).X) (nd : [N1, N2, N3, N4].Nodup) (st : St (lawM w h₀ La q N1 N2 N3 N4 (dsM l cs q N1 N2 N3 N4 nm)) s)
    (bb : BfAt w h₀ La q T cs N1 N2 N3 N4 b s.heap) : St (lawL w h₀ La q (dsZ l cs q b)) s := by
  obtain ⟨S, L, L2, L3, L4⟩ := bb
  have f1 := St.frz (i := 20) st S.at rfl
  have f2 := St.frz (i := 21) f1 (L2.less fun b m => (List.mem_filter.mp m).1) rfl
  have f3 := St.frz (i := 22) f2 (L3.less fun b m => (List.mem_filter.mp (List.mem_filter.mp m).1).1) rfl
  have f4 := St.frz (i := 23) f3 (L4.less fun b m => (List.mem_filter.mp (List.mem_filter.mp (List.mem_filter.mp m).1).1).1) rfl
  have sub : ∀ a ∈ (lawL w h₀ La q []).X, a ∈ (lawM w h₀ La q N1 N2 N3 N4 []).X := fun a m => List.mem_append_right _ m
  have f5 := St.minus (X := (lawL w h₀ La q []).X) f4 (filt_mem (filt_mem (filt_mem (filt_mem sub (hX N1 (by simp))) (hX N2 (by simp))) (hX N3 (by simp))) (hX N4 (by simp)))
  exact St.fitW (c := lawL w h₀ La q []) f5 (by repeat' first | exact trivial | refine And.intro rfl ?_)
end
end Mine
end
section
open PySem PySem.W PyProof.Rows
set_option Elab.async false
set_option linter.unusedVariables false
set_option maxRecDepth 100000
set_option pp.deepTerms false
set_option pp.deepTerms.threshold 4
namespace Mine
noncomputable def dsY (l : Addr) (cs : List Nat) (q : Lx) (b : Bf) (m : Nat → Nat) (ways : Nat) (lowR highR : List (List Nat)) : List (Option D) := [some (.ref l), some (natsD cs), none, none, some (.lst (keysD (keysOf (cv cs 6)))), some (judgeD (keysOf (cv cs 6))), some (thingsD cs), none, some (ordD (ordOf cs)), none, some (intsD (ranksOf cs)), some (strsD (namesOf cs)), some (.str (textOf cs)), none, none, none, some (.ref q.x), some (strsD (treeU cs)), some (.str (treeU cs).flatten), some (.str (remOf cs)), some (strsD (b.seen.map strW)), some (natsD b.came), some (.lst (nmsD cs b.low)), some (.lst (nmsD cs b.high)), none, none, some (.map (mapD (treeU cs) m)), some (.int (ways : Nat)), some (strsD lowR), some (strsD highR), none]
theorem Tv.or4 {n : Nat} {c : Cx} {x y z u : Expr} {pos : Pos} (hx : Tv n c x false) (hy : Tv n c y false) (hz : Tv n c z false) (hu : Tv n c u false) : Tv n c (.BoolOp .Or [x, y, z, u] pos) false := by
  intro ok A s Q E rm st k
  refine wpAny_isTrue_BoolOp (wpAny_allTrue_Or_cons (hx ok A s _ _ rm st fun s₁ p₁ => ?_))
  refine wpAny_allTrue_Or_cons (hy ok A s₁ _ _ rm (st.pure p₁) fun s₂ p₂ => ?_)
  refine wpAny_allTrue_Or_cons (hz ok A s₂ _ _ rm ((st.pure p₁).pure p₂) fun s₃ p₃ => ?_)
  refine wpAny_allTrue_Or_cons (hu ok A s₃ _ _ rm (((st.pure p₁).pure p₂).pure p₃) fun s₄ p₄ => ?_)
  exact wpAny_allTrue_Or_nil (k s₄ (((p₁.trans p₂).trans p₃).trans p₄))
theorem ints_nat (l : List Nat) : (l.map fun x : Nat => D.int x) = (l.map Int.ofNat).map D.int := by rw [List.map_map]; rfl
section
variable {w : World} {h₀ : Heap}
set_option maxHeartbeats 4000000 in
theorem segK1 (B : Base w h₀) {La l : Addr} {cs : List Nat} (hcs : cs.length = 8) {q : Lx} {b : Bf} {m : Nat → Nat} {ways : Nat} {lowR highR : List (List Nat)} {w1 w2 : List Nat} {sz : Nat}
    (hm : ∀ i, (treeU cs)[i]? = some [40] → i + 2 ≤ m i ∧ m i < (treeU cs).length ∧ isMate (treeU cs) i (m i) = true ∧ ∀ j, i + 2 ≤ j → j < m i → isMate (treeU cs) i j = false)
    (hok : okRead (treeU cs) m 7 0 (treeU cs).length = true) (hrd : readF (treeU cs) m 7 0 (treeU cs).length = (sz, ways, lowR, highR))
    (hways : ways * b.came.length = 720) (hcame : b.came.Pairwise (· ≤ ·)) (hcl : b.came.length < 64) (hlow : b.low = [w1]) (hlowR : nameW cs w1 = lowR) (hhigh : b.high = [w2]) (hhighR : nameW cs w2 = highR)
    (hseen : ∀ wd ∈ b.seen, WordOk wd ∧ treeT (fun k => (ranksOf cs).getD k 0) 6 wd = treeS cs) (hsl : b.seen.length ≤ 900)
    {A : Around} {s : Shared} {Q : Flow → Shared → Prop} {E : Value → Shared → Prop} (rm : Rm 20 A)
    (ok : ∀ ds, Ok (lawC w h₀ La ds)) (okL : ∀ ds, Ok (lawL w h₀ La q ds)) (st : St (lawL w h₀ La q (dsZ l cs q b)) s)
    (k : ∀ s', Step (lawC w h₀ La []).wr [] s s' → St (lawL w h₀ La q (dsY l cs q b m ways lowR highR)) s' → wpAny (model prog w) A (execs ((lawB w).drop 23) (lawC w h₀ La []).env) Q E s') :
    wpAny (model prog w) A (execs ((lawB w).drop 19) (lawC w h₀ La []).env) Q E s := by
  rw [show (lawB w).drop 19 = _ :: _ :: _ :: _ :: (lawB w).drop 23 from rfl]
  revert k
  generalize (lawB w).drop 23 = rest
  intro k
  have nlen : (namesOf cs).length = 6 := by unfold namesOf; rw [List.length_map, List.length_range]
  have rlen : (ranksOf cs).length = 6 := by unfold ranksOf; rw [List.length_map, List.length_take]; lia
  have tsl := treeS_len cs
  have ul : (treeU cs).length ≤ 18 := by unfold treeU; rw [List.length_map]; exact tsl
  obtain ⟨fl, fa⟩ : (treeU cs).flatten.length ≤ 36 ∧ (treeU cs).flatten.all (· < 128) = true := by
    have := units_ok cs (treeS cs)
    exact ⟨Nat.le_trans this.1 (by lia), this.2⟩
  have ua : ∀ u ∈ treeU cs, u.all (· < 128) = true := fun u hu => by
    obtain ⟨t, _, rfl⟩ := List.mem_map.mp hu
    exact (unitOf_ok cs t).2
  have big : ∀ m : Nat, m ≤ 1000 → m ≤ sizeLine := fun m h => Nat.le_trans h (by decide)
  have up : (strsD (treeU cs)).plain = true := plain_lst fun u hu => plain_str (ua u hu)
  refine sAssign (c := lawL w h₀ La q (dsZ l cs q b)) (n := 20) (d := .map (mapD (treeU cs) m)) (ds' := [some (.ref l), some (natsD cs), none, none, some (.lst (keysD (keysOf (cv cs 6)))), some (judgeD (keysOf (cv cs 6))), some (thingsD cs), none, some (ordD (ordOf cs)), none, some (intsD (ranksOf cs)), some (strsD (namesOf cs)), some (.str (textOf cs)), none, none, none, some (.ref q.x), some (strsD (treeU cs)), some (.str (treeU cs).flatten), some (.str (remOf cs)), some (strsD (b.seen.map strW)), some (natsD b.came), some (.lst (nmsD cs b.low)), some (.lst (nmsD cs b.high)), none, none, some (.map (mapD (treeU cs) m)), none, none, none, none]) 26 (okL _) rm st (Ev.call (.cons (Ev.name 17) .nil) (Fn.up (mates_fn (n := 9) B (by lia) (treeU cs) m (by lia) fa (by lia) hm) (by decide))) fun s₁ p₁ st₁ => ?_
  refine sAssignT (c := lawL w h₀ La q [some (.ref l), some (natsD cs), none, none, some (.lst (keysD (keysOf (cv cs 6)))), some (judgeD (keysOf (cv cs 6))), some (thingsD cs), none, some (ordD (ordOf cs)), none, some (intsD (ranksOf cs)), some (strsD (namesOf cs)), some (.str (textOf cs)), none, none, none, some (.ref q.x), some (strsD (treeU cs)), some (.str (treeU cs).flatten), some (.str (remOf cs)), some (strsD (b.seen.map strW)), some (natsD b.came), some (.lst (nmsD cs b.low)), some (.lst (nmsD cs b.high)), none, none, some (.map (mapD (treeU cs) m)), none, none, none, none]) (n := 20) (d := .tup [.int (ways : Nat), strsD lowR, strsD highR]) (ds' := dsY l cs q b m ways lowR highR) (okL _) rm st₁ (Ev.tup1 (d := .int (sz : Nat)) (Ev.call (.cons (Ev.name 17) (.cons (Ev.name 26) (.cons Ev.kInt (.cons (Ev.callB Boot.len Kp.builtin (.cons (Ev.name 17) .nil) (fn_len (by rw [List.length_map]; lia))) .nil)))) ?_) Ev.kInt (by show 3 ≤ 100; decide)) (Asg.tuple (.cons (.name 27) (.cons (.name 28) (.cons (.name 29) .nil)))) fun s₂ p₂ st₂ => ?_
  · have := read_fn B (treeU cs) m (by lia) 7 0 (treeU cs).length hok
    rw [hrd] at this
    rw [List.length_map]
    exact Fn.up this (by decide)
  have np : ∀ wd : List Nat, ∀ u ∈ nameW cs wd, u.all (· < 128) = true := fun wd u hu => by
    obtain ⟨k, _, rfl⟩ := List.mem_map.mp hu
    exact (unitOf_ok cs (k + 2)).2
  have npl : ∀ wd : List Nat, (strsD (nameW cs wd)).plain = true := fun wd => plain_lst fun u hu => plain_str (np wd u hu)
  have pll : ∀ wd : List Nat, (D.lst ([nameW cs wd].map fun l : List (List Nat) => strsD l)).plain = true := fun wd => plain_lst fun l hl => by obtain rfl := mem1 hl; exact npl wd
  have nes : ∀ wd : List Nat, Op2 20 w (compareOp .NotEq) (.lst ([nameW cs wd].map fun l : List (List Nat) => strsD l)) (.lst ([nameW cs wd].map fun l : List (List Nat) => strsD l)) (.bool false) := fun wd => by
    have := op_neL (n := 20) (w := w) Like.str.lst.lst (a := [nameW cs wd]) (b := [nameW cs wd]) (pll wd) (pll wd) (by lia)
    rwa [show ([nameW cs wd] != [nameW cs wd]) = false by simp] at this
  have hs : isort (b.came.map Int.ofNat) = b.came.map Int.ofNat := isort_id (List.pairwise_map.mpr (hcame.imp fun h => Int.ofNat_le.mpr h))
  have pc : (D.lst ((b.came.map Int.ofNat).map D.int)).plain = true := plain_lst fun _ _ => plain_int
  refine sIf (c := lawL w h₀ La q (dsY l cs q b m ways lowR highR)) (n := 20) (b := false) (okL _) rm st₂ (Tv.or4 (Tv.cast (Tv.cmp (Ev.bin (Ev.callB Boot.len Kp.builtin (.cons (Ev.name 21) .nil) (fn_len (by rw [List.length_map]; lia))) (Ev.name 27) (op_mul (by lia) (by rw [List.length_map]; lia))) Ev.kInt op_nei) ?_) (Tv.cmp (d₁ := .lst ((b.came.map Int.ofNat).map D.int)) (d₂ := .lst ((b.came.map Int.ofNat).map D.int)) (Ev.cast (Ev.name 21) (congrArg D.lst (ints_nat _))) (Ev.cast (Ev.callB boot_sorted Kp.builtin (.cons (Ev.cast (Ev.name 21) (congrArg D.lst (ints_nat _))) .nil) (fn_sorted (by rw [List.length_map]; lia))) (by rw [hs])) ?_)
    (Tv.cmp (d₁ := .lst ([nameW cs w1].map fun l : List (List Nat) => strsD l)) (d₂ := .lst ([nameW cs w1].map fun l : List (List Nat) => strsD l)) (Ev.cast (Ev.name 22) (by rw [hlow]; rfl)) (Ev.cast (Ev.list (.cons (Ev.name 28) .nil) (by show 1 ≤ sizeLine; decide)) (by rw [← hlowR]; rfl)) (nes w1)) (Tv.cmp (d₁ := .lst ([nameW cs w2].map fun l : List (List Nat) => strsD l)) (d₂ := .lst ([nameW cs w2].map fun l : List (List Nat) => strsD l)) (Ev.cast (Ev.name 23) (by rw [hhigh]; rfl)) (Ev.cast (Ev.list (.cons (Ev.name 29) .nil) (by show 1 ≤ sizeLine; decide)) (by rw [← hhighR]; rfl)) (nes w2))) (fun h => nomatch h) (fun _ s₃ p₃ st₃ => sNil ?_)
  · rw [List.length_map, bne_eq_false_iff_eq, ← Int.natCast_mul, Nat.mul_comm, hways]; rfl
  · have := op_neL (n := 20) (w := w) Like.int.lst (a := b.came.map Int.ofNat) (b := b.came.map Int.ofNat) pc pc (by lia)
    rwa [show (b.came.map Int.ofNat != b.came.map Int.ofNat) = false by simp] at this
  refine sIf (c := lawL w h₀ La q (dsY l cs q b m ways lowR highR)) (n := 20) (b := false) (okL _) rm st₃ (Tv.cmp (d₁ := .lst []) (d₂ := .lst []) (Ev.cast (Ev.lcM (fun wd : List Nat => D.str (strW wd)) (fun _ => none) b.seen (CompOk.of [11, 10, 17]) (by lia) (EvI.cast (EvI.lst (Ev.name 20)) (by rw [List.map_map]; rfl)) (by lia) fun io N wd hwd => ?_) (congrArg D.lst ?_)) (Ev.list .nil) (op_neNil (l := []) rfl (by lia))) (fun h => nomatch h) (fun _ s₄ p₄ st₄ => sNil (k s₄ (((p₁.trans p₂).trans p₃.up).trans p₄.up) st₄))
  · obtain ⟨⟨hl6, hx6⟩, ht⟩ := hseen wd hwd
    have sa : (strW wd).all (· < 128) = true := by
      unfold strW
      rw [List.all_eq_true]
      intro x mm
      obtain ⟨y, hy, rfl⟩ := List.mem_map.mp mm
      have := hx6 y hy
      simp; lia
    refine ⟨_, Asg.name 1, ?_, .one (Tv.cmp (d₁ := strsD (treeU cs)) (d₂ := strsD (treeU cs)) (Ev.cast (Ev.call (.cons (Ev.lcA (fun x : Nat => D.str [48 + x]) (fun x => D.int x) wd (CompOk.of []) (by lia) (EvI.cast (EvI.str (Ev.name 1) sa) ?_) (by lia) fun io2 N2 x hxm => ?_) (.cons (Ev.name 3) (.cons (Ev.name 2) .nil))) (Fn.up (tree_fn B (ranksOf cs) (namesOf cs) rlen nlen 6 wd (by lia) (by lia) hx6) (by decide))) ?_) (Ev.name 4) ?_)⟩
    · repeat' first | exact trivial | refine And.intro rfl ?_
    · unfold strW; rw [List.map_map]; rfl
    · exact CTurn.all (.name 1) (Ev.callB boot_int Kp.type (.cons (Ev.name 1) .nil) (fn_int (Nat.lt_of_lt_of_le (hx6 x hxm) (by decide))))
    · rw [ht]; rfl
    · have := op_neL (n := 20) (w := w) Like.str.lst (a := treeU cs) (b := treeU cs) up up (by lia)
      rwa [show (treeU cs != treeU cs) = false by simp] at this
  · rw [List.filterMap_eq_nil_iff]; intro _ _; rfl
end
end Mine
end
section
open PySem PySem.W PyProof.Rows
set_option Elab.async false
set_option linter.unusedVariables false
set_option maxRecDepth 100000
set_option pp.deepTerms false
set_option pp.deepTerms.threshold 4
namespace Mine
theorem Ev.lit6 {n : Nat} {c : Cx} {k1 k2 k3 k4 k5 k6 : Nat} {p1 p2 p3 p4 p5 p6 p7 : Pos} : Ev n c (.List [.Constant (.int 0) k1 p1, .Constant (.int 1) k2 p2, .Constant (.int 2) k3 p3, .Constant (.int 3) k4 p4, .Constant (.int 4) k5 p5, .Constant (.int 5) k6 p6] p7) (natsD [0, 1, 2, 3, 4, 5]) := by
  have e6 : Evs n c [] [] := Evs.nil
  have e5 : Evs n c [.Constant (.int 5) k6 p6] [.int 5] := Evs.cons Ev.kInt e6
  have e4 : Evs n c [.Constant (.int 4) k5 p5, .Constant (.int 5) k6 p6] [.int 4, .int 5] := Evs.cons Ev.kInt e5
  have e3 : Evs n c [.Constant (.int 3) k4 p4, .Constant (.int 4) k5 p5, .Constant (.int 5) k6 p6] [.int 3, .int 4, .int 5] := Evs.cons Ev.kInt e4
  have e2 : Evs n c [.Constant (.int 2) k3 p3, .Constant (.int 3) k4 p4, .Constant (.int 4) k5 p5, .Constant (.int 5) k6 p6] [.int 2, .int 3, .int 4, .int 5] := Evs.cons Ev.kInt e3
  have e1 : Evs n c [.Constant (.int 1) k2 p2, .Constant (.int 2) k3 p3, .Constant (.int 3) k4 p4, .Constant (.int 4) k5 p5, .Constant (.int 5) k6 p6] [.int 1, .int 2, .int 3, .int 4, .int 5] := Evs.cons Ev.kInt e2
  have e0 : Evs n c [.Constant (.int 0) k1 p1, .Constant (.int 1) k2 p2, .Constant (.int 2) k3 p3, .Constant (.int 3) k4 p4, .Constant (.int 4) k5 p5, .Constant (.int 5) k6 p6] [.int 0, .int 1, .int 2, .int 3, .int 4, .int 5] := Evs.cons Ev.kInt e1
  exact Ev.list e0 (by show 6 ≤ sizeLine; decide)
structure TurnOk (us : List (List Nat)) (m : Nat → Nat) (f : Nat) (upper lower : List Nat) : Prop where
  hk : us[f + 1]? = some upper
  hno : ∀ j, j < f + 1 → us[j]? ≠ some upper
  hf : us[f]? = some [40]
  h1 : turnC us f lower = true → us[f + 2]? = some [40]
  h2 : turnC us f lower = false → us[m f + 1]? = some [40]
theorem swap_id (k : Nat) (hk : k < 5) : swapW [0, 1, 2, 3, 4, 5] k = [0, 1, 2, 3, 4, 5].take k ++ [k + 1, k] ++ [0, 1, 2, 3, 4, 5].drop (k + 2) := by
  exact (show ∀ k, k < 5 → swapW [0, 1, 2, 3, 4, 5] k = [0, 1, 2, 3, 4, 5].take k ++ [k + 1, k] ++ [0, 1, 2, 3, 4, 5].drop (k + 2) by decide +kernel) k hk
theorem swap_lt (k : Nat) (hk : k < 5) : (swapW [0, 1, 2, 3, 4, 5] k).length = 6 ∧ ∀ x ∈ swapW [0, 1, 2, 3, 4, 5] k, x < 6 := by
  exact (show ∀ k, k < 5 → (swapW [0, 1, 2, 3, 4, 5] k).length = 6 ∧ ∀ x ∈ swapW [0, 1, 2, 3, 4, 5] k, x < 6 by decide +kernel) k hk
section
variable {w : World} {h₀ : Heap}
set_option maxHeartbeats 4000000 in
theorem segK2 (B : Base w h₀) {La l : Addr} {cs : List Nat} (hcs : cs.length = 8) {q : Lx} {b : Bf} {m : Nat → Nat} {ways : Nat} {lowR highR : List (List Nat)} {f : Nat → Nat}
    (hfree : ∀ kk, kk < 5 → (ranksOf cs).getD kk 0 ≠ (ranksOf cs).getD (kk + 1) 0 → freeB (ordOf cs) [0, 1, 2, 3, 4, 5] kk = true → treeT (fun k => (ranksOf cs).getD k 0) 6 (swapW [0, 1, 2, 3, 4, 5] kk) = treeS cs)
    (hturn : ∀ kk, kk < 5 → (ranksOf cs).getD kk 0 ≠ (ranksOf cs).getD (kk + 1) 0 → freeB (ordOf cs) [0, 1, 2, 3, 4, 5] kk = false → TurnOk (treeU cs) m (f kk) ((namesOf cs).getD (kk + 1) []) ((namesOf cs).getD kk []) ∧
      (treeT (fun k => (ranksOf cs).getD k 0) 6 (swapW [0, 1, 2, 3, 4, 5] kk)).map (unitOf (namesOf cs)) = turnF (treeU cs) m (f kk) ((namesOf cs).getD (kk + 1) []) ((namesOf cs).getD kk []))
    {A : Around} {s : Shared} {Q : Flow → Shared → Prop} {E : Value → Shared → Prop} (rm : Rm 20 A)
    (ok : ∀ ds, Ok (lawC w h₀ La ds)) (okL : ∀ ds, Ok (lawL w h₀ La q ds)) (st : St (lawL w h₀ La q (dsY l cs q b m ways lowR highR)) s)
    (k : ∀ s', Step (lawC w h₀ La []).wr [] s s' → Q (.ret (.bool true)) s') :
    wpAny (model prog w) A (execs ((lawB w).drop 23) (lawC w h₀ La []).env) Q E s := by
  rw [show (lawB w).drop 23 = [_, _] from rfl]
  have nlen : (namesOf cs).length = 6 := by unfold namesOf; rw [List.length_map, List.length_range]
  have rlen : (ranksOf cs).length = 6 := by unfold ranksOf; rw [List.length_map, List.length_take]; lia
  have tsl := treeS_len cs
  have ul : (treeU cs).length ≤ 18 := by unfold treeU; rw [List.length_map]; exact tsl
  have ua : ∀ u ∈ treeU cs, u.all (· < 128) = true := fun u hu => by
    obtain ⟨t, _, rfl⟩ := List.mem_map.mp hu
    exact (unitOf_ok cs t).2
  have big : ∀ m : Nat, m ≤ 1000 → m ≤ sizeLine := fun m h => Nat.le_trans h (by decide)
  have s6 : ([0, 1, 2, 3, 4, 5].map fun x : Nat => D.int x).length ≤ sizeLine := by show 6 ≤ sizeLine; decide
  refine sFor (c := lawL w h₀ La q (dsY l cs q b m ways lowR highR)) (n := 20) (((List.range 5).filter fun k => (ranksOf cs).getD k 0 != (ranksOf cs).getD (k + 1) 0).map fun x : Nat => D.int x) (fun _ => dsY l cs q b m ways lowR highR) (lawC w h₀ La []).wr (fun _ _ => True) (fun _ _ => False)
    (okL _) rm (by lia) st (EvI.lst (Ev.cast (Ev.lcM (fun x : Nat => D.int x) (fun k => if (ranksOf cs).getD k 0 != (ranksOf cs).getD (k + 1) 0 then some (D.int k) else none) (List.range 5) (CompOk.of [10]) (by lia) (EvI.range (k := 5) Ev.kInt (by decide)) (by decide) fun io N x hx => ?_) (congrArg D.lst (fm_if (fun x : Nat => D.int x) (fun k => (ranksOf cs).getD k 0 != (ranksOf cs).getD (k + 1) 0) _)))) rfl (fun _ h => h) (okL []).wr (fun _ _ => trivial) (fun _ _ _ _ _ _ _ _ => trivial) ?_ (fun _ _ _ h => h.elim) ?_
  · have hx5 := List.mem_range.mp hx
    exact CTurn.keep (.name 1) (Tv.cmp (Ev.atM (f := D.int) 0 (Ev.name 2) (Ev.name 1) (by lia) (by lia)) (Ev.atM (f := D.int) (k := x + 1) 0 (Ev.name 2) (Ev.bin (Ev.name 1) Ev.kInt op_add) (by lia) (by lia)) op_nei) (fun _ => Ev.name 1)
  · intro io i d A s₁ v Q E hd hio okT rm st₁ _ _ rv hk1 _
    rw [List.getElem?_map] at hd
    obtain ⟨kk, hkk, rfl⟩ := Option.map_eq_some_iff.mp hd
    obtain ⟨hk5, hne⟩ := List.mem_filter.mp (List.mem_of_getElem? hkk)
    have hk5 := List.mem_range.mp hk5
    have hne : (ranksOf cs).getD kk 0 ≠ (ranksOf cs).getD (kk + 1) 0 := bne_iff_ne.mp hne
    have hf := hfree kk hk5 hne
    have ht := hturn kk hk5 hne
    obtain ⟨sw1, sw2⟩ := swap_lt kk hk5
    have nm1 : ((namesOf cs).getD kk []).all (· < 128) = true := (unitOf_ok cs (kk + 2)).2
    refine (Asg.name 9 : Asg 20 _ _ _ _) okT A s₁ v _ E rm st₁ rv fun s₂ p₂ st₂ => ?_
    refine sAssign (d := natsD (swapW [0, 1, 2, 3, 4, 5] kk)) 24 (okT.wd _) rm st₂ (Ev.cast (Ev.bin (Ev.bin (Ev.cast (Ev.slc Ev.lit6 .no (.yes (Ev.name 9)) s6) (congrArg D.lst (sl_to kk _))) (Ev.list (.cons (Ev.bin (Ev.name 9) Ev.kInt op_add) (.cons (Ev.name 9) .nil)) (by show 2 ≤ sizeLine; decide)) (op_addl (big _ ?_))) (Ev.cast (d := .lst (([0, 1, 2, 3, 4, 5].map fun x : Nat => D.int x).drop (kk + 2))) (Ev.slc Ev.lit6 (.yes (Ev.bin (Ev.name 9) Ev.kInt op_add)) .no s6) (congrArg D.lst (by rw [show ((kk : Nat) : Int) + 2 = ((kk + 2 : Nat) : Int) by lia]; exact sl_from (kk + 2) _))) (op_addl (big _ ?_))) (congrArg D.lst ?_)) fun s₃ p₃ st₃ => ?_
    · rw [List.length_take, List.length_map]; simp only [List.length_cons, List.length_nil]; lia
    · rw [List.length_append, List.length_take, List.length_drop, List.length_map]; simp only [List.length_cons, List.length_nil]; lia
    · rw [swap_id kk hk5, List.map_append, List.map_append, List.map_take, List.map_drop]; rfl
    refine sAssign (d := strsD ((treeT (fun k => (ranksOf cs).getD k 0) 6 (swapW [0, 1, 2, 3, 4, 5] kk)).map (unitOf (namesOf cs)))) 30 (okT.wd _) rm st₃ (Ev.ifexp (b := freeB (ordOf cs) [0, 1, 2, 3, 4, 5] kk) (Tv.val (Ev.call (.cons Ev.lit6 (.cons (Ev.name 8) (.cons (Ev.name 9) .nil))) (Fn.up (free_fn (n := 4) B (by lia) (ordOf cs) [0, 1, 2, 3, 4, 5] kk rfl (by decide) hk5) (by decide))) tr_bool) (fun h => ?_) (fun h => ?_)) fun s₄ p₄ st₄ => ?_
    · rw [hf h]; exact Ev.name 17
    · obtain ⟨tk, te⟩ := ht h
      rw [te]
      exact Ev.call (.cons (Ev.name 17) (.cons (Ev.name 26) (.cons (Ev.atM (f := D.str) (k := kk + 1) [] (Ev.name 11) (Ev.bin (Ev.name 9) Ev.kInt op_add) (by lia) (by lia)) (.cons (Ev.atM (f := D.str) [] (Ev.name 11) (Ev.name 9) (by lia) (by lia)) .nil)))) (Fn.up (turned_fn (n := 4) B (by lia) (treeU cs) m (by lia) (f kk) _ _ tk.hk tk.hno tk.hf tk.h1 tk.h2 (List.all_eq_true.mpr ua) nm1) (by decide))
    have tp : (strsD ((treeT (fun k => (ranksOf cs).getD k 0) 6 (swapW [0, 1, 2, 3, 4, 5] kk)).map (unitOf (namesOf cs)))).plain = true := plain_lst fun u hu => plain_str (by
      obtain ⟨t, _, rfl⟩ := List.mem_map.mp hu
      exact (unitOf_ok cs t).2)
    refine sIf (b := false) (okT.wd _) rm st₄ (Tv.cmp (Ev.call (.cons (Ev.name 24) (.cons (Ev.name 10) (.cons (Ev.name 11) .nil))) (Fn.up (tree_fn B (ranksOf cs) (namesOf cs) rlen nlen 6 (swapW [0, 1, 2, 3, 4, 5] kk) (by lia) (by lia) sw2) (by decide))) (Ev.name 30) ?_) (fun h => nomatch h) (fun _ s₅ p₅ st₅ => sNil (sNil ?_))
    · have := op_neL (n := 20) (w := w) Like.str.lst (a := (treeT (fun k => (ranksOf cs).getD k 0) 6 (swapW [0, 1, 2, 3, 4, 5] kk)).map (unitOf (namesOf cs))) (b := (treeT (fun k => (ranksOf cs).getD k 0) 6 (swapW [0, 1, 2, 3, 4, 5] kk)).map (unitOf (namesOf cs))) tp tp (by lia)
      rwa [show ((treeT (fun k => (ranksOf cs).getD k 0) 6 (swapW [0, 1, 2, 3, 4, 5] kk)).map (unitOf (namesOf cs)) != (treeT (fun k => (ranksOf cs).getD k 0) 6 (swapW [0, 1, 2, 3, 4, 5] kk)).map (unitOf (namesOf cs))) = false by simp] at this
    · refine hk1 .next s₅ (.inl rfl) (((p₂.trans p₃).trans p₄).trans p₅.up) (St.fitW st₅ ?_) trivial
      repeat' first | exact trivial | refine And.intro rfl ?_
  · intro s₁ p₁ st₁ _
    refine sReturn (c := lawL w h₀ La q (dsY l cs q b m ways lowR highR)) (n := 20) (okL _) rm st₁ Ev.kBool fun v s₂ p₂ r₂ => ?_
    rw [r₂.bool_inv]
    exact k s₂ (p₁.trans p₂.up)
end
end Mine
end
section
open PySem PySem.W PyProof.Rows
set_option Elab.async false
set_option linter.unusedVariables false
set_option maxRecDepth 100000
set_option pp.deepTerms false
set_option pp.deepTerms.threshold 4
namespace Mine
/-- what the plain law must tell -/
structure PF (cs : List Nat) (N : Nat) (m f : Nat → Nat) (ways sz : Nat) (lowR highR : List (List Nat)) (w1 w2 : List Nat) : Prop where
  hord : ∀ i j, i < 6 → j < 6 → (ordOf cs i j = -1 ∨ ordOf cs i j = 0 ∨ ordOf cs i j = 1) ∧ ordOf cs i j + ordOf cs j i = 0
  htok : ∀ k, k < 6 → (startT (rsK cs k)).1 = (namesOf cs).getD k []
  hlast : startT (rsK cs 6) = ([], [])
  hasc : (textOf cs).all (· < 128) = true
  hun : (allU (treeU cs).flatten).map (·.2) = treeU cs
  hc1 : checkV (remOf cs ++ (treeU cs).flatten) = true
  hc2 : checkV ((treeU cs).flatten.drop 1 ++ remOf cs ++ (treeU cs).flatten.take 1) = false
  hN : N < 64
  hname : ∀ j, j < N → WordOk (bfJ (ordOf cs) j).name
  hend : (bfJ (ordOf cs) N).name = []
  hm : ∀ i, (treeU cs)[i]? = some [40] → i + 2 ≤ m i ∧ m i < (treeU cs).length ∧ isMate (treeU cs) i (m i) = true ∧ ∀ j, i + 2 ≤ j → j < m i → isMate (treeU cs) i j = false
  hok : okRead (treeU cs) m 7 0 (treeU cs).length = true
  hrd : readF (treeU cs) m 7 0 (treeU cs).length = (sz, ways, lowR, highR)
  hways : ways * N = 720
  hcame : (bfJ (ordOf cs) N).came.Pairwise (· ≤ ·)
  hlow : (bfJ (ordOf cs) N).low = [w1]
  hlowR : nameW cs w1 = lowR
  hhigh : (bfJ (ordOf cs) N).high = [w2]
  hhighR : nameW cs w2 = highR
  hseen : ∀ wd ∈ (bfJ (ordOf cs) N).seen, WordOk wd ∧ treeT (fun k => (ranksOf cs).getD k 0) 6 wd = treeS cs
  hfree : ∀ kk, kk < 5 → (ranksOf cs).getD kk 0 ≠ (ranksOf cs).getD (kk + 1) 0 → freeB (ordOf cs) [0, 1, 2, 3, 4, 5] kk = true → treeT (fun k => (ranksOf cs).getD k 0) 6 (swapW [0, 1, 2, 3, 4, 5] kk) = treeS cs
  hturn : ∀ kk, kk < 5 → (ranksOf cs).getD kk 0 ≠ (ranksOf cs).getD (kk + 1) 0 → freeB (ordOf cs) [0, 1, 2, 3, 4, 5] kk = false → TurnOk (treeU cs) m (f kk) ((namesOf cs).getD (kk + 1) []) ((namesOf cs).getD kk []) ∧
      (treeT (fun k => (ranksOf cs).getD k 0) 6 (swapW [0, 1, 2, 3, 4, 5] kk)).map (unitOf (namesOf cs)) = turnF (treeU cs) m (f kk) ((namesOf cs).getD (kk + 1) []) ((namesOf cs).getD kk [])
noncomputable def PlainLaw : Prop := ∀ cs : List Nat, cs.length = 8 → (∀ x ∈ cs, x < 100000000) → ∃ N m f ways sz lowR highR w1 w2, PF cs N m f ways sz lowR highR w1 w2
set_option maxHeartbeats 4000000 in
theorem walk_of (PLw : PlainLaw) : Walk := by
  intro w h₀ s l vs ns B hx hg h107 hl hI hlen
  refine wpAny_call (fn_enterV [107] (n := 30) (w := w) (h₀ := h₀) (a := 146) (fd := lawFd w) (body := lawB w) (params := [Str.ofString "script"]) (args := [.ref l]) (ds := [some (.ref l), none, none, none, none, none, none, none, none, none, none, none, none, none, none, none, none, none, none, none, none, none, none, none, none, none, none, none, none, none, none]) [107] (fun s => s.heap.get? 107 = some (tabObj #[])) (fun _ v s' => v = .bool true ∧ GrownAt 107 s'.heap) B (lawH w).eq rfl rfl rfl rfl rfl rfl (fun vals h => ?_) (nodup_of rfl) (by decide) rfl
    (by intro x hx; obtain rfl := mem1 hx; exact .inl rfl) rfl rfl rfl rfl ?_ callerA s [.ref l] _ _ (Rm.caller.less (by decide)) hx (Low.cons h107 Low.nil) (fun a m => by obtain rfl := mem1 m; exact B.no) (.cons Rep.ref' .nil) h107 (fun _ h => h) fun v s' p R => ?_)
  · exact bindv1 h fun a => rfl
  · intro A s₀ s La Q E ok rm st h107 p0 hown hY hO k
    have gA := @segA w h₀
    have gB := @segB w h₀
    have gC := @segC w h₀
    have gD := @segD w h₀
    have gE := @segE w h₀
    have gF := @segF w h₀
    have gG := @segG w h₀
    have gH := @segH w h₀
    have gI := @segI w h₀
    have gJ := @segJ w h₀
    have gK1 := @segK1 w h₀
    have gK2 := @segK2 w h₀
    generalize lawB w = body at gA gB gC gD gE gF gG gH gI gJ gK1 gK2 ⊢
    have ok' : ∀ ds, Ok (lawC w h₀ La ds) := fun ds => ok.wd ds
    replace h107 := p0.pure _ _ h107
    have n107 : 107 ∉ (lawC w h₀ La []).wr := fun m => hO 107 (Cx.wr_own m) (by simp)
    have loww : ∀ {ds} {s : Shared}, St (lawC w h₀ La ds) s → Low (lawC w h₀ La []).wr s.heap := fun st a m => st.low a ((ok' []).own a (Cx.wr_own m))
    refine gA (n := 10) B (by decide) hl hI hlen (rm.less (by decide)) ok' st fun cs sA hcs hb pA stA => ?_
    obtain ⟨N, m, f, ways, sz, lowR, highR, w1, w2, P⟩ := PLw cs hcs hb
    refine gB (n := 10) B (by decide) hcs hb (rm.less (by decide)) ok' stA fun sB pB stB => ?_
    refine gC (n := 10) B (by decide) hcs hb (rm.less (by decide)) ok' stB fun sC pC stC => ?_
    refine gD (n := 10) B (by decide) hcs hb P.hord (rm.less (by decide)) ok' stC fun sD pD stD => ?_
    refine gE (n := 10) B (by decide) hcs hb (rm.less (by decide)) ok' stD fun sE pE stE => ?_
    have pAE := (((pA.trans pB).trans pC).trans pD).trans pE
    have h107E := pAE.ext _ _ n107 h107
    refine gF (n := 10) B (by decide) (rm.less (by decide)) ok' hO stE h107E fun q sF fq pF okL nqX stF LF gF => ?_
    have fq0 : ∀ a ∈ q.all, s.heap.get? a = none := fun a mm => none_back pAE (loww stE) (fq a mm)
    have hq : ∀ a ∈ q.all, a ∉ (lawC w h₀ La []).own := fun a mm z => nqX a mm ((ok' []).own a z)
    refine gG (n := 10) B (by decide) P.htok P.hlast P.hasc (rm.less (by decide)) ok' okL nqX stF LF fun sG pG stG LG => ?_
    refine gH B hcs hb P.hun P.hc1 P.hc2 (rm.less (by decide)) ok' okL stG fun sH pH stH => ?_
    refine gI B (rm.less (by decide)) ok' okL stH fun N1 N2 N3 N4 sI fN nd pI okM stI S1 S2 S3 S4 => ?_
    have LH := LG.step pH (fun a mm z => hq a mm (Cx.wr_own z))
    have LI := LH.step pI (fun a mm z => hq a mm (Cx.wr_own z))
    have nX : ∀ a ∈ [N1, N2, N3, N4], a ∉ (lawL w h₀ La q []).X := fun a mm z => by obtain ⟨o, g⟩ := stH.low a z; rw [fN a mm] at g; cases g
    have nOQ : ∀ a ∈ [N1, N2, N3, N4], a ∉ (lawC w h₀ La []).own ∧ a ∉ q.all := fun a mm => ⟨fun z => nX a mm (List.mem_append_right _ ((ok' []).own a z)), fun z => nX a mm (List.mem_append_left _ z)⟩
    have b0 : BfAt w h₀ La q (1 + (textOf cs).count 10) cs N1 N2 N3 N4 (bfJ (ordOf cs) 0) sI.heap := ⟨S1, LI, LstS.at S2, LstS.at S3, LstS.at S4⟩
    refine gJ B (N := N) (by have := P.hN; lia) P.hname P.hend (rm.less (by decide)) okM nOQ nd hq stI b0 fun sJ pJ stJ bJ => ?_
    have stZ := freezeAll nX nd stJ bJ
    have hbl := bf_len (ordOf cs) N
    refine gK1 B hcs (b := bfJ (ordOf cs) N) P.hm P.hok P.hrd (by rw [hbl.2.2.1]; exact P.hways) P.hcame (by rw [hbl.2.2.1]; exact P.hN) P.hlow P.hlowR P.hhigh P.hhighR P.hseen (by have := P.hN; lia) (rm.less (by decide)) ok' okL stZ fun sK pK stK => ?_
    refine gK2 B hcs P.hfree P.hturn (rm.less (by decide)) ok' okL stK fun sL pL => ?_
    have lowL : ∀ {s : Shared}, Low (lawL w h₀ La q []).X s.heap → Low (lawC w h₀ La []).wr s.heap := fun h a mm => h a (List.mem_append_right _ ((ok' []).own a (Cx.wr_own mm)))
    have wL : ∀ {a}, a ∈ (lawC w h₀ La []).wr → a ∈ (q.all ++ [N1, N2, N3, N4]) ++ (lawC w h₀ La []).wr := fun mm => List.mem_append_right _ mm
    have pFL : Step ((q.all ++ [N1, N2, N3, N4]) ++ (lawC w h₀ La []).wr) [] sF sL :=
      ((((pG.wide fun a mm => List.mem_append_left _ (List.mem_append_left _ mm)).trans (pH.wide fun a mm => wL mm)).trans (pI.wide fun a mm => wL mm)).trans (pJ.wide fun a mm => by
        rcases List.mem_append.mp mm with mm | mm
        · exact List.mem_append_left _ (List.mem_append_right _ mm)
        · rcases List.mem_append.mp mm with mm | mm
          · exact wL mm
          · exact List.mem_append_left _ (List.mem_append_left _ mm))).trans ((pK.wide fun a mm => wL mm).trans (pL.wide fun a mm => wL mm))
    have pAF : Step ((lawC w h₀ La []).wr ++ [107]) [] s sF := (pAE.wide fun a mm => List.mem_append_left _ mm).trans pF
    have lowF : Low ((lawC w h₀ La []).wr ++ [107]) sF.heap := fun a mm => by
      rcases List.mem_append.mp mm with mm | mm
      · exact lowL (fun a mm => stF.low a mm) a mm
      · obtain rfl := mem1 mm; obtain ⟨ps, g⟩ := gF; exact ⟨_, g⟩
    have fN0 : ∀ a ∈ [N1, N2, N3, N4], s.heap.get? a = none := fun a mm => none_back pAF lowF (none_back pG LG.there (none_back pH (lowL fun a mm => stH.low a mm) (fN a mm)))
    have fW : ∀ a ∈ q.all ++ [N1, N2, N3, N4], s.heap.get? a = none := fun a mm => (List.mem_append.mp mm).elim (fq0 a) (fN0 a)
    have n107W : 107 ∉ (q.all ++ [N1, N2, N3, N4]) ++ (lawC w h₀ La []).wr := fun mm => by
      rcases List.mem_append.mp mm with mm | mm
      · have := fW 107 mm; rw [h107] at this; cases this
      · exact n107 mm
    refine k (.bool true) sL (Step.unseen' (W := q.all ++ [N1, N2, N3, N4]) (gs := []) pAF (pFL.wide fun a mm => ?_) fW (by simp)) ⟨rfl, ?_⟩
    · rcases List.mem_append.mp mm with mm | mm
      · exact List.mem_append_left _ mm
      · exact List.mem_append_right _ (List.mem_append_left _ mm)
    · obtain ⟨ps, g⟩ := gF
      exact ⟨ps, pFL.ext _ _ n107W g⟩
  · obtain ⟨rfl, hgr⟩ := R
    refine ⟨rfl, fun b o e => ?_, hgr, p.bare (AllBare.of_eq hg), p.os⟩
    exact p.ext b o (fun z => by obtain rfl := mem1 z; rw [B.no] at e; cases e) (hx b o e)
end Mine
end
section
set_option linter.unusedVariables false
namespace Mine
/-! the plain law, as a reckoning over permutations; by recursors, for the kernel's sake -/
noncomputable def nth (l : List Nat) : Nat → Nat := List.rec (fun _ => 0) (fun a _ ih n => Nat.rec a (fun m _ => ih m) n) l
noncomputable def filR (q : Nat → Bool) (l : List Nat) : List Nat := List.rec [] (fun a _ ih => Bool.rec ih (a :: ih) (q a)) l
noncomputable def appR (l m : List Nat) : List Nat := List.rec m (fun a _ ih => a :: ih) l
noncomputable def appW (l m : List (List Nat)) : List (List Nat) := List.rec m (fun a _ ih => a :: ih) l
noncomputable def dropR (l : List Nat) : Nat → List Nat := List.rec (fun _ => []) (fun a r ih n => Nat.rec (a :: r) (fun m _ => ih m) n) l
noncomputable def andR (a b : Bool) : Bool := Bool.rec false b a
noncomputable def orR (a b : Bool) : Bool := Bool.rec b true a
noncomputable def anyR (p : List Nat) (lo hi : Nat) (l : List Nat) : Bool := List.rec false (fun c _ ih => orR (andR (Nat.ble lo (nth p c)) (Nat.ble (Nat.succ (nth p c)) hi)) ih) l
noncomputable def freeR (p w : List Nat) (k : Nat) : Bool :=
  (fun pa pb => Bool.rec (andR (Nat.ble (Nat.succ pb) pa) (anyR p pb pa (dropR w (k + 2)))) (anyR p pa pb (dropR w (k + 2))) (Nat.ble (Nat.succ pa) pb)) (nth p (nth w k)) (nth p (nth w (k + 1)))
noncomputable def eqR (l : List Nat) : List Nat → Bool := List.rec (fun m => List.rec true (fun _ _ _ => false) m) (fun a _ ih m => List.rec false (fun b r _ => andR (Nat.beq a b) (ih r)) m) l
noncomputable def hasR (x : List Nat) (l : List (List Nat)) : Bool := List.rec false (fun y _ ih => orR (eqR x y) ih) l
noncomputable def swapR (w : List Nat) : Nat → List Nat := List.rec (fun _ => []) (fun a r ih k => Nat.rec (List.rec [a] (fun b r' _ => b :: a :: r') r) (fun m _ => a :: ih m) k) w
noncomputable def cntR (x : Nat) (l : List Nat) : Nat := List.rec 0 (fun y _ ih => Bool.rec ih (Nat.succ ih) (Nat.ble (Nat.succ y) x)) l
noncomputable def invR (l : List Nat) : Nat := List.rec 0 (fun x r ih => Nat.add (cntR x r) ih) l
noncomputable def movesR (p w : List Nat) : List Nat := filR (freeR p w) [0, 1, 2, 3, 4]
noncomputable def pushR (w : List Nat) (mv : List Nat) : List (List Nat) → List (List Nat) → (List (List Nat) → List (List Nat) → Bool) → Bool :=
  List.rec (fun sn qu k => k sn qu) (fun m _ ih sn qu k => Bool.rec (ih (appW sn [swapR w m]) (appW qu [swapR w m]) k) (ih sn qu k) (hasR (swapR w m) sn)) mv
noncomputable def upR (p w : List Nat) (mv : List Nat) : Bool := List.rec true (fun k _ ih => andR (Nat.ble (nth p (nth w k)) (nth p (nth w (k + 1)))) ih) mv
noncomputable def dnR (p w : List Nat) (mv : List Nat) : Bool := List.rec true (fun k _ ih => andR (Nat.ble (nth p (nth w (k + 1))) (nth p (nth w k))) ih) mv
noncomputable def allLt6 (l : List Nat) : Bool := List.rec true (fun x _ ih => andR (Nat.ble x 5) ih) l
noncomputable def lenR (l : List Nat) : Nat := List.rec 0 (fun _ _ ih => Nat.succ ih) l
noncomputable def wordR (w : List Nat) : Bool := andR (Nat.beq (lenR w) 6) (allLt6 w)
noncomputable def runR (p : List Nat) (fin : Nat → List (List Nat) → List Nat → List (List Nat) → List (List Nat) → Bool) (fuel : Nat) : Nat → List Nat → List (List Nat) → List (List Nat) → List Nat → List (List Nat) → List (List Nat) → Bool :=
  Nat.rec (fun _ _ _ _ _ _ _ => false) (fun _ ih n name sn qu cm lo hi => List.rec (fin n sn cm lo hi) (fun _ _ _ => andR (wordR name)
    (pushR name (movesR p name) sn qu (fun sn' qu' => List.rec (ih (n + 1) [] sn' [] (appR cm [invR name]) (Bool.rec lo (appW lo [name]) (upR p name (movesR p name))) (Bool.rec hi (appW hi [name]) (dnR p name (movesR p name))))
      (fun nm r _ => ih (n + 1) nm sn' r (appR cm [invR name]) (Bool.rec lo (appW lo [name]) (upR p name (movesR p name))) (Bool.rec hi (appW hi [name]) (dnR p name (movesR p name)))) qu'))) name) fuel
noncomputable def treeR (p : List Nat) (fuel : Nat) : List Nat → List Nat :=
  Nat.rec (fun _ => []) (fun _ ih w => List.rec [] (fun a r _ => (fun l => 0 :: (l + 2) :: appR (ih (filR (fun k => Nat.ble (nth p k) (nth p l)) (List.dropLast w))) (1 :: ih (filR (fun k => Nat.ble (Nat.succ (nth p l)) (nth p k)) (List.dropLast w)))) (List.getLastD w 0)) w) fuel
noncomputable def takeR (l : List Nat) : Nat → List Nat := List.rec (fun _ => []) (fun a _ ih n => Nat.rec [] (fun m _ => a :: ih m) n) l
noncomputable def mapR (g : Nat → Nat) (l : List Nat) : List Nat := List.rec [] (fun a _ ih => g a :: ih) l
/-- brackets in balance: 0 opens, 1 closes -/
noncomputable def balR (l : List Nat) : Nat → Bool := List.rec (fun o => Nat.beq o 0) (fun a _ ih o => Nat.rec (ih (Nat.succ o)) (fun a' _ => Nat.rec (Nat.rec false (fun o' _ => ih o') o) (fun _ _ => ih o) a') a) l
noncomputable def mateR (T : List Nat) (i j : Nat) : Bool := andR (Nat.beq (nth T j) 1) (andR (Nat.ble (Nat.succ j) (lenR T)) (balR (dropR (takeR T (j + 1)) i) 0))
noncomputable def findR (T : List Nat) (i fuel : Nat) : Nat → Nat := Nat.rec (fun j => j) (fun _ ih j => Bool.rec (ih (j + 1)) j (mateR T i j)) fuel
noncomputable def matesR (T : List Nat) : List Nat := mapR (fun i => Nat.rec (findR T i 18 (i + 2)) (fun _ _ => 0) (nth T i)) [0, 1, 2, 3, 4, 5, 6, 7, 8, 9, 10, 11, 12, 13, 14, 15, 16, 17]
noncomputable def matesOkR (T M : List Nat) : Bool := List.rec true (fun i _ ih => andR (Nat.rec (mateR T i (nth M i)) (fun _ _ => true) (nth T i)) ih) [0, 1, 2, 3, 4, 5, 6, 7, 8, 9, 10, 11, 12, 13, 14, 15, 16, 17]
noncomputable def isOpR (T : List Nat) (i : Nat) : Bool := andR (Nat.beq (nth T i) 0) (Nat.ble (Nat.succ i) (lenR T))
/-- the tree's reading: sizes, numbers of words -/
noncomputable def okR (T M : List Nat) (fuel : Nat) : Nat → Nat → Bool := Nat.rec (fun i b => Nat.beq i b) (fun _ ih i b => orR (Nat.beq i b) (andR (isOpR T i) (andR (Nat.ble (i + 2) (lenR T)) (andR (ih (i + 2) (nth M i)) (ih (nth M i + 1) b))))) fuel
noncomputable def sizeR (M : List Nat) (fuel : Nat) : Nat → Nat → Nat := Nat.rec (fun _ _ => 0) (fun _ ih i b => Bool.rec (ih (i + 2) (nth M i) + (ih (nth M i + 1) b + 1)) 0 (Nat.beq i b)) fuel
noncomputable def waysR (M : List Nat) (fuel : Nat) : Nat → Nat → Nat := Nat.rec (fun _ _ => 1) (fun f ih i b => Bool.rec (sizeR M (Nat.succ f) i b * ih (i + 2) (nth M i) * ih (nth M i + 1) b) 1 (Nat.beq i b)) fuel
noncomputable def lowR (T M : List Nat) (fuel : Nat) : Nat → Nat → List Nat := Nat.rec (fun _ _ => []) (fun _ ih i b => Bool.rec (appR (ih (i + 2) (nth M i)) (appR (ih (nth M i + 1) b) [nth T (i + 1)])) [] (Nat.beq i b)) fuel
noncomputable def highR (T M : List Nat) (fuel : Nat) : Nat → Nat → List Nat := Nat.rec (fun _ _ => []) (fun _ ih i b => Bool.rec (appR (ih (nth M i + 1) b) (appR (ih (i + 2) (nth M i)) [nth T (i + 1)])) [] (Nat.beq i b)) fuel
noncomputable def turnCR (T : List Nat) (f lo : Nat) : Bool := eqR (dropR (takeR T (f + 4)) (f + 3)) [lo]
noncomputable def turnR (T M : List Nat) (f up lo : Nat) : List Nat := Bool.rec
  (appR (takeR T f) (0 :: lo :: appR (dropR (takeR T (nth M f + 1)) f) (appR (dropR (takeR T (nth M (nth M f + 1))) (nth M f + 3)) (1 :: dropR T (nth M (nth M f + 1) + 1)))))
  (appR (takeR T f) (0 :: lo :: appR (dropR (takeR T (nth M (f + 2) + 1)) (f + 4)) (0 :: up :: dropR T (nth M (f + 2) + 1)))) (turnCR T f lo)
noncomputable def idxR (x : Nat) (l : List Nat) : Nat := List.rec 0 (fun y _ ih => Bool.rec (Nat.succ ih) 0 (Nat.beq x y)) l
noncomputable def turnOkR (p T M : List Nat) (k : Nat) : Bool := Bool.rec
  ((fun f => andR (Nat.beq (nth T (f + 1)) (k + 3)) (andR (isOpR T f) (andR (Bool.rec (isOpR T (nth M f + 1)) (isOpR T (f + 2)) (turnCR T f (k + 2))) (eqR (treeR p 6 (swapR [0, 1, 2, 3, 4, 5] k)) (turnR T M f (k + 3) (k + 2)))))) (Nat.pred (idxR (k + 3) T)))
  (eqR (treeR p 6 (swapR [0, 1, 2, 3, 4, 5] k)) T) (freeR p [0, 1, 2, 3, 4, 5] k)
noncomputable def sortR (l : List Nat) : Nat → Bool := List.rec (fun _ => true) (fun b _ ih a => andR (Nat.ble a b) (ih b)) l
noncomputable def oneR (l : List (List Nat)) (m : List Nat) : Bool := List.rec false (fun w r _ => List.rec (eqR (mapR (fun x => Nat.succ (Nat.succ x)) w) m) (fun _ _ _ => false) r) l
noncomputable def allTreeR (p T : List Nat) (l : List (List Nat)) : Bool := List.rec true (fun w _ ih => andR (wordR w) (andR (eqR (treeR p 6 w) T) ih)) l
noncomputable def forceN (n : Nat) : (Nat → Bool) → Bool := Nat.rec (fun k => k 0) (fun _ ih k => ih (fun m => k (Nat.succ m))) n
noncomputable def forceL (l : List Nat) : (List Nat → Bool) → Bool := List.rec (fun k => k []) (fun a _ ih k => forceN a (fun a' => ih (fun r => k (a' :: r)))) l
noncomputable def finR (p T M : List Nat) (n : Nat) (sn : List (List Nat)) (cm : List Nat) (lo hi : List (List Nat)) : Bool :=
  andR (Nat.beq (Nat.mul (waysR M 7 0 18) n) 720) (andR (sortR cm 0) (andR (oneR lo (lowR T M 7 0 18)) (andR (oneR hi (highR T M 7 0 18)) (allTreeR p T sn))))
noncomputable def chkR (p : List Nat) : Bool := forceL (treeR p 6 [0, 1, 2, 3, 4, 5]) (fun T => forceL (matesR T) (fun M =>
  andR (Nat.beq (lenR T) 18) (andR (matesOkR T M) (andR (balR T 0) (andR (okR T M 7 0 18) (andR (turnOkR p T M 0) (andR (turnOkR p T M 1) (andR (turnOkR p T M 2) (andR (turnOkR p T M 3) (andR (turnOkR p T M 4)
    (runR p (finR p T M) 24 0 [0, 1, 2, 3, 4, 5] [[0, 1, 2, 3, 4, 5]] [] [] [] [])))))))))))
noncomputable def memR (x : Nat) (l : List Nat) : Bool := List.rec false (fun y _ ih => orR (Nat.beq x y) ih) l
noncomputable def nodR (l : List Nat) : Bool := List.rec true (fun a r ih => Bool.rec ih false (memR a r)) l
/-- each way to go on behind two things passes -/
noncomputable def allN (n : Nat) (g : Nat → Bool) : Bool := Nat.rec true (fun m ih => andR (g m) ih) n
noncomputable def chk2 (a b : Nat) : Bool := allN 6 fun c => allN 6 fun d => allN 6 fun e => allN 6 fun f => Bool.rec true (chkR [a, b, c, d, e, f]) (nodR [a, b, c, d, e, f])
end Mine
end
section
set_option Elab.async false
namespace Mine
theorem chk2_01 : chk2 0 1 = true := by decide +kernel
theorem chk2_02 : chk2 0 2 = true := by decide +kernel
theorem chk2_03 : chk2 0 3 = true := by decide +kernel
theorem chk2_04 : chk2 0 4 = true := by decide +kernel
theorem chk2_05 : chk2 0 5 = true := by decide +kernel
theorem chk2_10 : chk2 1 0 = true := by decide +kernel
theorem chk2_12 : chk2 1 2 = true := by decide +kernel
theorem chk2_13 : chk2 1 3 = true := by decide +kernel
theorem chk2_14 : chk2 1 4 = true := by decide +kernel
theorem chk2_15 : chk2 1 5 = true := by decide +kernel
theorem chk2_20 : chk2 2 0 = true := by decide +kernel
theorem chk2_21 : chk2 2 1 = true := by decide +kernel
theorem chk2_23 : chk2 2 3 = true := by decide +kernel
theorem chk2_24 : chk2 2 4 = true := by decide +kernel
theorem chk2_25 : chk2 2 5 = true := by decide +kernel
theorem chk2_30 : chk2 3 0 = true := by decide +kernel
theorem chk2_31 : chk2 3 1 = true := by decide +kernel
theorem chk2_32 : chk2 3 2 = true := by decide +kernel
theorem chk2_34 : chk2 3 4 = true := by decide +kernel
theorem chk2_35 : chk2 3 5 = true := by decide +kernel
theorem chk2_40 : chk2 4 0 = true := by decide +kernel
theorem chk2_41 : chk2 4 1 = true := by decide +kernel
theorem chk2_42 : chk2 4 2 = true := by decide +kernel
theorem chk2_43 : chk2 4 3 = true := by decide +kernel
theorem chk2_45 : chk2 4 5 = true := by decide +kernel
theorem chk2_50 : chk2 5 0 = true := by decide +kernel
theorem chk2_51 : chk2 5 1 = true := by decide +kernel
theorem chk2_52 : chk2 5 2 = true := by decide +kernel
theorem chk2_53 : chk2 5 3 = true := by decide +kernel
theorem chk2_54 : chk2 5 4 = true := by decide +kernel
end Mine
end
section
set_option Elab.async false
set_option linter.unusedVariables false
namespace Mine
theorem andR_eq (a b : Bool) : andR a b = (a && b) := by cases a <;> rfl
theorem orR_eq (a b : Bool) : orR a b = (a || b) := by cases a <;> rfl
theorem nth_eq (l : List Nat) : ∀ i, nth l i = l.getD i 0 := by
  induction l with
  | nil => intro i; cases i <;> rfl
  | cons a l ih =>
    intro i
    cases i with
    | zero => rfl
    | succ i => show nth l i = _; rw [ih i]; rfl
theorem filR_eq (q : Nat → Bool) (l : List Nat) : filR q l = l.filter q := by
  induction l with
  | nil => rfl
  | cons a l ih =>
    show (Bool.rec (filR q l) (a :: filR q l) (q a) : List Nat) = _
    rw [ih, List.filter_cons]
    cases q a <;> rfl
theorem appR_eq (l m : List Nat) : appR l m = l ++ m := by
  induction l with
  | nil => rfl
  | cons a l ih => show a :: appR l m = _; rw [ih]; rfl
theorem appW_eq (l m : List (List Nat)) : appW l m = l ++ m := by
  induction l with
  | nil => rfl
  | cons a l ih => show a :: appW l m = _; rw [ih]; rfl
theorem dropR_eq (l : List Nat) : ∀ n, dropR l n = l.drop n := by
  induction l with
  | nil => intro n; cases n <;> rfl
  | cons a l ih =>
    intro n
    cases n with
    | zero => rfl
    | succ n => show dropR l n = _; rw [ih n]; rfl
theorem takeR_eq (l : List Nat) : ∀ n, takeR l n = l.take n := by
  induction l with
  | nil => intro n; cases n <;> rfl
  | cons a l ih =>
    intro n
    cases n with
    | zero => rfl
    | succ n => show a :: takeR l n = _; rw [ih n]; rfl
theorem mapR_eq (g : Nat → Nat) (l : List Nat) : mapR g l = l.map g := by
  induction l with
  | nil => rfl
  | cons a l ih => show g a :: mapR g l = _; rw [ih]; rfl
theorem lenR_eq (l : List Nat) : lenR l = l.length := by
  induction l with
  | nil => rfl
  | cons a l ih => show Nat.succ (lenR l) = _; rw [ih]; rfl
theorem eqR_iff (l : List Nat) : ∀ m, eqR l m = true ↔ l = m := by
  induction l with
  | nil =>
    intro m
    cases m with
    | nil => exact ⟨fun _ => rfl, fun _ => rfl⟩
    | cons b m => exact ⟨fun h => absurd (show false = true from h) (by decide), fun h => absurd h (by simp)⟩
  | cons a l ih =>
    intro m
    cases m with
    | nil => exact ⟨fun h => absurd (show false = true from h) (by decide), fun h => absurd h (by simp)⟩
    | cons b m =>
      show andR (Nat.beq a b) (eqR l m) = true ↔ _
      rw [andR_eq, Bool.and_eq_true, ih m, List.cons.injEq, Nat.beq_eq]
theorem eqR_eq (l m : List Nat) : eqR l m = (l == m) := by
  rw [Bool.eq_iff_iff, eqR_iff, beq_iff_eq]
theorem hasR_eq (x : List Nat) (l : List (List Nat)) : hasR x l = l.contains x := by
  induction l with
  | nil => rfl
  | cons a l ih =>
    show orR (eqR x a) (hasR x l) = _
    rw [orR_eq, ih, eqR_eq, List.contains_cons]
theorem allLt6_iff (l : List Nat) : allLt6 l = true ↔ ∀ x ∈ l, x < 6 := by
  induction l with
  | nil => exact ⟨fun _ x h => (nomatch h), fun _ => rfl⟩
  | cons a l ih =>
    show andR (Nat.ble a 5) (allLt6 l) = true ↔ _
    rw [andR_eq, Bool.and_eq_true, ih, Nat.ble_eq]
    constructor
    · rintro ⟨h1, h2⟩ x hx
      rcases memc hx with rfl | hx
      · lia
      · exact h2 x hx
    · intro h
      have := h a (.head _)
      exact ⟨by lia, fun x hx => h x (.tail _ hx)⟩
theorem wordR_iff (w : List Nat) : wordR w = true ↔ WordOk w := by
  unfold wordR WordOk
  rw [andR_eq, Bool.and_eq_true, allLt6_iff, lenR_eq, Nat.beq_eq]
theorem swapR_eq (w : List Nat) : ∀ k, k + 1 < w.length → swapR w k = swapW w k := by
  induction w with
  | nil => intro k h; simp at h
  | cons a w ih =>
    intro k h
    cases k with
    | zero =>
      cases w with
      | nil => simp at h
      | cons b w => rfl
    | succ k =>
      show a :: swapR w k = _
      rw [ih k (by simpa using h)]
      rfl
theorem cntR_eq (x : Nat) (l : List Nat) : cntR x l = (l.filter fun y => decide (y < x)).length := by
  induction l with
  | nil => rfl
  | cons a l ih =>
    show (Bool.rec (cntR x l) (Nat.succ (cntR x l)) (Nat.ble (Nat.succ a) x) : Nat) = _
    rw [ih, List.filter_cons]
    by_cases h : a < x
    · rw [show Nat.ble (Nat.succ a) x = true from Nat.ble_eq.mpr h, if_pos (by simpa using h)]; rfl
    · rw [show Nat.ble (Nat.succ a) x = false by rw [Bool.eq_false_iff]; intro e; exact h (Nat.ble_eq.mp e), if_neg (by simpa using h)]
theorem invR_eq (w : List Nat) (h : w.length = 6) : invR w = invW w := by
  match w, h with
  | [a, b, c, d, e, f], _ =>
    unfold invW
    show cntR a [b, c, d, e, f] + (cntR b [c, d, e, f] + (cntR c [d, e, f] + (cntR d [e, f] + (cntR e [f] + (cntR f [] + 0))))) = _
    simp only [cntR_eq]
    rfl
/-- ranks told by a permutation, equal ones by index -/
noncomputable def Std (r : Nat → Int) (p : List Nat) : Prop := ∀ a b, a < 6 → b < 6 → (nth p a < nth p b ↔ r a < r b ∨ (r a = r b ∧ a < b))
/-- equal things stand in index order -/
noncomputable def Inv (r : Nat → Int) (w : List Nat) : Prop := (∀ x ∈ w, x < 6) ∧ w.Pairwise fun a b => r a = r b → a < b
theorem Inv.filter {r : Nat → Int} {w : List Nat} (h : Inv r w) (q : Nat → Bool) : Inv r (w.filter q) := ⟨fun x m => h.1 x (List.mem_filter.mp m).1, h.2.sublist List.filter_sublist⟩
theorem Inv.dropLast {r : Nat → Int} {w : List Nat} (h : Inv r w) : Inv r w.dropLast := ⟨fun x m => h.1 x (List.dropLast_subset _ m), h.2.sublist (List.dropLast_sublist _)⟩
theorem Inv.last {r : Nat → Int} {a : Nat} {w : List Nat} (h : Inv r (a :: w)) : ∀ x ∈ (a :: w).dropLast, r x = r ((a :: w).getLastD 0) → x < (a :: w).getLastD 0 := by
  intro x hx
  have e : (a :: w).dropLast ++ [(a :: w).getLast (by simp)] = a :: w := List.dropLast_concat_getLast (by simp)
  have hp := h.2
  rw [← e, List.pairwise_append] at hp
  have := hp.2.2 x hx _ (List.mem_singleton.mpr rfl)
  rw [List.getLastD_eq_getLast?, List.getLast?_eq_some_getLast (by simp)]
  exact this
theorem last_lt {a : Nat} {w : List Nat} (h : ∀ x ∈ a :: w, x < 6) : (a :: w).getLastD 0 < 6 := by
  rw [List.getLastD_eq_getLast?, List.getLast?_eq_some_getLast (by simp)]
  exact h _ (List.getLast_mem _)
theorem treeR_eq {r : Nat → Int} {p : List Nat} (S : Std r p) : ∀ (f : Nat) (w : List Nat), Inv r w → treeR p f w = treeT r f w := by
  intro f
  induction f with
  | zero => intro w _; rfl
  | succ f ih =>
    intro w h
    cases w with
    | nil => rfl
    | cons a w =>
      have hl := last_lt h.1
      have e1 : (a :: w).dropLast.filter (fun k => Nat.ble (nth p k) (nth p ((a :: w).getLastD 0))) = (a :: w).dropLast.filter (fun k => decide (r k ≤ r ((a :: w).getLastD 0))) := by
        apply List.filter_congr
        intro x hx
        have hx6 := h.dropLast.1 x hx
        have hI := h.last x hx
        have h1 := S _ _ hl hx6
        rw [Bool.eq_iff_iff, Nat.ble_eq, decide_eq_true_eq]
        lia
      have e2 : (a :: w).dropLast.filter (fun k => Nat.ble (Nat.succ (nth p ((a :: w).getLastD 0))) (nth p k)) = (a :: w).dropLast.filter (fun k => decide (r k > r ((a :: w).getLastD 0))) := by
        apply List.filter_congr
        intro x hx
        have hx6 := h.dropLast.1 x hx
        have hI := h.last x hx
        have h1 := S _ _ hl hx6
        rw [Bool.eq_iff_iff, Nat.ble_eq, decide_eq_true_eq]
        lia
      rw [treeT]
      show 0 :: ((a :: w).getLastD 0 + 2) :: appR (treeR p f (filR (fun k => Nat.ble (nth p k) (nth p ((a :: w).getLastD 0))) (a :: w).dropLast)) (1 :: treeR p f (filR (fun k => Nat.ble (Nat.succ (nth p ((a :: w).getLastD 0))) (nth p k)) (a :: w).dropLast)) = _
      rw [appR_eq, filR_eq, filR_eq, e1, e2, ih _ (h.dropLast.filter _), ih _ (h.dropLast.filter _)]
end Mine
end
section
set_option Elab.async false
set_option linter.unusedVariables false
namespace Mine
structure OSgn (o : Nat → Nat → Int) (r : Nat → Int) : Prop where
  lt : ∀ i j, i < 6 → j < 6 → (o i j < 0 ↔ r i < r j)
  le : ∀ i j, i < 6 → j < 6 → (o i j ≤ 0 ↔ r i ≤ r j)
  gt : ∀ i j, i < 6 → j < 6 → (o i j > 0 ↔ r i > r j)
theorem anyR_eq (p : List Nat) (lo hi : Nat) (l : List Nat) : anyR p lo hi l = l.any fun c => Nat.ble lo (nth p c) && Nat.ble (Nat.succ (nth p c)) hi := by
  induction l with
  | nil => rfl
  | cons a l ih =>
    show orR (andR (Nat.ble lo (nth p a)) (Nat.ble (Nat.succ (nth p a)) hi)) (anyR p lo hi l) = _
    rw [orR_eq, andR_eq, ih, List.any_cons]
theorem any_congr' {l : List Nat} {f g : Nat → Bool} (h : ∀ c ∈ l, f c = g c) : l.any f = l.any g := by
  induction l with
  | nil => rfl
  | cons a l ih => rw [List.any_cons, List.any_cons, h a (.head _), ih fun c m => h c (.tail _ m)]
theorem split2 (w : List Nat) (k : Nat) (h : k + 1 < w.length) : w = w.take k ++ w.getD k 0 :: w.getD (k + 1) 0 :: w.drop (k + 2) := by
  have e1 : w.drop k = w[k] :: w.drop (k + 1) := List.drop_eq_getElem_cons (by lia)
  have e2 : w.drop (k + 1) = w[k + 1] :: w.drop (k + 2) := List.drop_eq_getElem_cons h
  rw [List.getD_eq_getElem?_getD, List.getD_eq_getElem?_getD, List.getElem?_eq_getElem h, List.getElem?_eq_getElem (show k < w.length by lia)]
  show w = w.take k ++ w[k] :: w[k + 1] :: w.drop (k + 2)
  rw [← e2, ← e1, List.take_append_drop]
section
variable {r : Nat → Int} {p : List Nat} {o : Nat → Nat → Int}
/-- what the invariant says of two neighbours and what comes behind -/
theorem Inv.near {w : List Nat} (h : Inv r w) (hl : w.length = 6) {k : Nat} (hk : k < 5) :
    w.getD k 0 < 6 ∧ w.getD (k + 1) 0 < 6 ∧ (r (w.getD k 0) = r (w.getD (k + 1) 0) → w.getD k 0 < w.getD (k + 1) 0) ∧
    ∀ c ∈ w.drop (k + 2), c < 6 ∧ (r (w.getD k 0) = r c → w.getD k 0 < c) ∧ (r (w.getD (k + 1) 0) = r c → w.getD (k + 1) 0 < c) := by
  have e := split2 w k (by lia)
  have hp := h.2
  have hm := h.1
  rw [e] at hp hm
  rw [List.pairwise_append, List.pairwise_cons, List.pairwise_cons] at hp
  obtain ⟨_, ⟨h1, h2, _⟩, _⟩ := hp
  refine ⟨hm _ (List.mem_append_right _ (.head _)), hm _ (List.mem_append_right _ (.tail _ (.head _))), h1 _ (.head _), fun c m => ⟨hm c (List.mem_append_right _ (.tail _ (.tail _ m))), h1 c (.tail _ m), h2 c m⟩⟩
theorem any_key (S : Std r p) (O : OSgn o r) {lo hi : Nat} (hlo : lo < 6) (hhi : hi < 6) {l : List Nat} (h : ∀ c ∈ l, c < 6 ∧ (r lo = r c → lo < c) ∧ (r hi = r c → hi < c)) :
    anyR p (nth p lo) (nth p hi) l = l.any fun b => decide (o lo b ≤ 0) && decide (o b hi < 0) := by
  rw [anyR_eq]
  refine any_congr' fun c m => ?_
  obtain ⟨hc, h1, h2⟩ := h c m
  have s1 := S c lo hc hlo
  have s2 := S c hi hc hhi
  have o1 := O.le lo c hlo hc
  have o2 := O.lt c hi hc hhi
  have e1 : Nat.ble (nth p lo) (nth p c) = decide (o lo c ≤ 0) := by
    rw [Bool.eq_iff_iff, Nat.ble_eq, decide_eq_true_eq, o1]; lia
  have e2 : Nat.ble (Nat.succ (nth p c)) (nth p hi) = decide (o c hi < 0) := by
    rw [Bool.eq_iff_iff, Nat.ble_eq, decide_eq_true_eq, o2]; lia
  rw [e1, e2]
theorem freeR_eq (S : Std r p) (O : OSgn o r) {w : List Nat} (h : Inv r w) (hl : w.length = 6) {k : Nat} (hk : k < 5) : freeR p w k = freeB o w k ∧ (freeB o w k = true → r (w.getD k 0) ≠ r (w.getD (k + 1) 0)) := by
  obtain ⟨ha, hb, hab, hc⟩ := h.near hl hk
  have s1 := S _ _ ha hb
  have s2 := S _ _ hb ha
  have o1 := O.lt _ _ ha hb
  have o2 := O.lt _ _ hb ha
  unfold freeR freeB loOf hiOf
  rw [nth_eq w k, nth_eq w (k + 1), dropR_eq]
  generalize w.getD k 0 = a at *
  generalize w.getD (k + 1) 0 = b at *
  generalize w.drop (k + 2) = d at *
  dsimp only
  by_cases q : r a < r b
  · have e : Nat.ble (Nat.succ (nth p a)) (nth p b) = true := Nat.ble_eq.mpr (s1.mpr (.inl q))
    rw [e, if_pos (o1.mpr q), if_pos (o1.mpr q), decide_eq_true (o1.mpr q), Bool.true_and]
    exact ⟨any_key S O ha hb hc, fun _ => by lia⟩
  · have no : ¬ o a b < 0 := fun x => q (o1.mp x)
    rw [if_neg no, if_neg no]
    by_cases q' : r b < r a
    · have e : Nat.ble (Nat.succ (nth p a)) (nth p b) = false := by
        rw [Bool.eq_false_iff]; intro x; have := s1.mp (Nat.ble_eq.mp x); lia
      have e' : Nat.ble (Nat.succ (nth p b)) (nth p a) = true := Nat.ble_eq.mpr (s2.mpr (.inl q'))
      rw [e, decide_eq_true (o2.mpr q'), Bool.true_and]
      show andR (Nat.ble (Nat.succ (nth p b)) (nth p a)) (anyR p (nth p b) (nth p a) d) = _ ∧ _
      rw [e', andR_eq, Bool.true_and]
      exact ⟨any_key S O hb ha fun c m => let ⟨x, y, z⟩ := hc c m; ⟨x, z, y⟩, fun _ => by lia⟩
    · have eq : r a = r b := by lia
      have hlt := hab eq
      have e : Nat.ble (Nat.succ (nth p a)) (nth p b) = true := Nat.ble_eq.mpr (s1.mpr (.inr ⟨eq, hlt⟩))
      rw [e, decide_eq_false (fun x => q' (o2.mp x)), Bool.false_and]
      refine ⟨?_, fun x => nomatch x⟩
      show anyR p (nth p a) (nth p b) d = false
      rw [anyR_eq, List.any_eq_false]
      intro c m
      obtain ⟨c6, h1, h2⟩ := hc c m
      have t1 := S c a c6 ha
      have t2 := S c b c6 hb
      rw [Bool.and_eq_true, Nat.ble_eq, Nat.ble_eq]
      lia
theorem swap_split (w : List Nat) (k : Nat) : swapW w k = w.take k ++ w.getD (k + 1) 0 :: w.getD k 0 :: w.drop (k + 2) := by
  unfold swapW; simp
theorem swap_mem {w : List Nat} {k : Nat} (h : k + 1 < w.length) : ∀ x ∈ swapW w k, x ∈ w := by
  intro x hx
  rw [swap_split] at hx
  rw [split2 w k h]
  simp only [List.mem_append, List.mem_cons] at hx ⊢
  rcases hx with hx | hx | hx | hx
  · exact .inl hx
  · exact .inr (.inr (.inl hx))
  · exact .inr (.inl hx)
  · exact .inr (.inr (.inr hx))
theorem swap_len {w : List Nat} {k : Nat} (h : k + 1 < w.length) : (swapW w k).length = w.length := by
  have e := congrArg List.length (split2 w k h)
  rw [swap_split]
  simp only [List.length_append, List.length_cons] at e ⊢
  lia
theorem Inv.swap {w : List Nat} (h : Inv r w) {k : Nat} (hk : k + 1 < w.length) (hne : r (w.getD k 0) ≠ r (w.getD (k + 1) 0)) : Inv r (swapW w k) := by
  refine ⟨fun x m => h.1 x (swap_mem hk x m), ?_⟩
  have hp := h.2
  rw [split2 w k hk] at hp
  rw [swap_split]
  rw [List.pairwise_append, List.pairwise_cons, List.pairwise_cons] at hp ⊢
  obtain ⟨h1, ⟨h2, h3, h4⟩, h5⟩ := hp
  refine ⟨h1, ⟨fun c m => ?_, fun c m => h2 c (.tail _ m), h4⟩, fun a ha c m => ?_⟩
  · rcases memc m with rfl | m
    · exact fun e => absurd e.symm hne
    · exact h3 c m
  · rcases memc m with rfl | m
    · exact h5 a ha _ (.tail _ (.head _))
    · rcases memc m with rfl | m
      · exact h5 a ha _ (.head _)
      · exact h5 a ha c (.tail _ (.tail _ m))
theorem movesR_eq (S : Std r p) (O : OSgn o r) {w : List Nat} (h : Inv r w) (hl : w.length = 6) : movesR p w = movesOf o w := by
  unfold movesR movesOf
  rw [filR_eq]
  show ([0, 1, 2, 3, 4] : List Nat).filter _ = (List.range 5).filter _
  rw [show ([0, 1, 2, 3, 4] : List Nat) = List.range 5 from rfl]
  apply List.filter_congr
  intro k hk
  exact (freeR_eq S O h hl (List.mem_range.mp hk)).1
end
end Mine
end
section
set_option Elab.async false
set_option linter.unusedVariables false
namespace Mine
section
variable {r : Nat → Int} {p : List Nat} {o : Nat → Nat → Int}
noncomputable def WInv (r : Nat → Int) (w : List Nat) : Prop := Inv r w ∧ w.length = 6
theorem WInv.ok {w : List Nat} (h : WInv r w) : WordOk w := ⟨h.2, h.1.1⟩
theorem empty_filter (l : List Nat) (f : Nat → Bool) : (l.filter f).isEmpty = l.all fun x => !f x := by
  induction l with
  | nil => rfl
  | cons a l ih =>
    rw [List.filter_cons, List.all_cons, ← ih]
    cases f a <;> simp
theorem upR_all (p w mv : List Nat) : upR p w mv = mv.all fun k => Nat.ble (nth p (nth w k)) (nth p (nth w (k + 1))) := by
  induction mv with
  | nil => rfl
  | cons a l ih => show andR _ (upR p w l) = _; rw [andR_eq, ih, List.all_cons]
theorem dnR_all (p w mv : List Nat) : dnR p w mv = mv.all fun k => Nat.ble (nth p (nth w (k + 1))) (nth p (nth w k)) := by
  induction mv with
  | nil => rfl
  | cons a l ih => show andR _ (dnR p w l) = _; rw [andR_eq, ih, List.all_cons]
theorem all_congr' {l : List Nat} {f g : Nat → Bool} (h : ∀ c ∈ l, f c = g c) : l.all f = l.all g := by
  induction l with
  | nil => rfl
  | cons a l ih => rw [List.all_cons, List.all_cons, h a (.head _), ih fun c m => h c (.tail _ m)]
theorem moves_mem {w : List Nat} {k : Nat} (h : k ∈ movesOf o w) : k < 5 ∧ freeB o w k = true :=
  ⟨List.mem_range.mp (List.mem_filter.mp h).1, (List.mem_filter.mp h).2⟩
theorem upR_eq (S : Std r p) (O : OSgn o r) {w : List Nat} (h : WInv r w) : upR p w (movesR p w) = upB o w := by
  rw [movesR_eq S O h.1 h.2, upR_all]
  unfold upB
  rw [empty_filter]
  refine all_congr' fun k hk => ?_
  obtain ⟨k5, kf⟩ := moves_mem hk
  obtain ⟨ha, hb, hab, _⟩ := h.1.near h.2 k5
  have s := S _ _ hb ha
  have g := O.gt _ _ ha hb
  rw [nth_eq w k, nth_eq w (k + 1), Bool.eq_iff_iff, Nat.ble_eq, Bool.not_eq_true', decide_eq_false_iff_not]
  omega
theorem dnR_eq (S : Std r p) (O : OSgn o r) {w : List Nat} (h : WInv r w) : dnR p w (movesR p w) = dnB o w := by
  rw [movesR_eq S O h.1 h.2, dnR_all]
  unfold dnB
  rw [empty_filter]
  refine all_congr' fun k hk => ?_
  obtain ⟨k5, kf⟩ := moves_mem hk
  obtain ⟨ha, hb, hab, _⟩ := h.1.near h.2 k5
  have ne := (freeR_eq S O h.1 h.2 k5).2 kf
  have s := S _ _ ha hb
  have g := O.lt _ _ ha hb
  rw [nth_eq w k, nth_eq w (k + 1), Bool.eq_iff_iff, Nat.ble_eq, Bool.not_eq_true', decide_eq_false_iff_not]
  lia
theorem pushR_eq (w : List Nat) (hl : w.length = 6) : ∀ (mv : List Nat) (sn qu : List (List Nat)) (K : List (List Nat) → List (List Nat) → Bool), (∀ k ∈ mv, k < 5) →
    pushR w mv sn qu K = K ((mv.map (swapW w)).foldl pushW (sn, qu)).1 ((mv.map (swapW w)).foldl pushW (sn, qu)).2 := by
  intro mv
  induction mv with
  | nil => intro sn qu K _; rfl
  | cons m mv ih =>
    intro sn qu K hm
    have e : swapR w m = swapW w m := swapR_eq w m (by have := hm m (.head _); lia)
    show (Bool.rec (pushR w mv (appW sn [swapR w m]) (appW qu [swapR w m]) K) (pushR w mv sn qu K) (hasR (swapR w m) sn) : Bool) = _
    rw [List.map_cons, List.foldl_cons, e, hasR_eq]
    have hm' : ∀ k ∈ mv, k < 5 := fun k h => hm k (.tail _ h)
    cases hc : sn.contains (swapW w m) with
    | true =>
      have pw : pushW (sn, qu) (swapW w m) = (sn, qu) := by unfold pushW; rw [hc]; rfl
      rw [pw]; exact ih sn qu K hm'
    | false =>
      have pw : pushW (sn, qu) (swapW w m) = (sn ++ [swapW w m], qu ++ [swapW w m]) := by unfold pushW; rw [hc]; rfl
      rw [pw, appW_eq, appW_eq]; exact ih _ _ K hm'
theorem pushW_mem (os : List (List Nat)) : ∀ st : List (List Nat) × List (List Nat), (∀ x ∈ (os.foldl pushW st).1, x ∈ st.1 ∨ x ∈ os) ∧ (∀ x ∈ (os.foldl pushW st).2, x ∈ st.2 ∨ x ∈ os) := by
  induction os with
  | nil => intro st; exact ⟨fun x h => .inl h, fun x h => .inl h⟩
  | cons a os ih =>
    intro st
    rw [List.foldl_cons]
    obtain ⟨h1, h2⟩ := ih (pushW st a)
    have e1 : ∀ x ∈ (pushW st a).1, x ∈ st.1 ∨ x ∈ a :: os := fun x hx => by
      unfold pushW at hx
      split at hx
      · exact .inl hx
      · rcases List.mem_append.mp hx with hx | hx
        · exact .inl hx
        · exact .inr (by obtain rfl := mem1 hx; exact .head _)
    have e2 : ∀ x ∈ (pushW st a).2, x ∈ st.2 ∨ x ∈ a :: os := fun x hx => by
      unfold pushW at hx
      split at hx
      · exact .inl hx
      · rcases List.mem_append.mp hx with hx | hx
        · exact .inl hx
        · exact .inr (by obtain rfl := mem1 hx; exact .head _)
    refine ⟨fun x hx => ?_, fun x hx => ?_⟩
    · rcases h1 x hx with h | h
      · exact e1 x h
      · exact .inr (.tail _ h)
    · rcases h2 x hx with h | h
      · exact e2 x h
      · exact .inr (.tail _ h)
/-- all words of the search keep the invariant -/
noncomputable def BInv (r : Nat → Int) (b : Bf) : Prop := (b.name = [] ∨ WInv r b.name) ∧ (∀ x ∈ b.seen, WInv r x) ∧ ∀ x ∈ b.queue, WInv r x
theorem BInv.step (S : Std r p) (O : OSgn o r) {b : Bf} (h : BInv r b) (hn : WInv r b.name) : BInv r (stepB o b) := by
  have ho : ∀ x ∈ (movesOf o b.name).map (swapW b.name), WInv r x := fun x hx => by
    obtain ⟨k, hk, rfl⟩ := List.mem_map.mp hx
    obtain ⟨k5, kf⟩ := moves_mem hk
    have hlt : k + 1 < b.name.length := by rw [hn.2]; lia
    exact ⟨hn.1.swap hlt ((freeR_eq S O hn.1 hn.2 k5).2 kf), by rw [swap_len hlt, hn.2]⟩
  obtain ⟨m1, m2⟩ := pushW_mem ((movesOf o b.name).map (swapW b.name)) (b.seen, b.queue)
  have hq : ∀ x ∈ (((movesOf o b.name).map (swapW b.name)).foldl pushW (b.seen, b.queue)).2, WInv r x := fun x hx => (m2 x hx).elim (h.2.2 x) (ho x)
  refine ⟨?_, fun x hx => (m1 x hx).elim (h.2.1 x) (ho x), fun x hx => hq x (List.mem_of_mem_tail hx)⟩
  show (((movesOf o b.name).map (swapW b.name)).foldl pushW (b.seen, b.queue)).2.headD [] = [] ∨ WInv r ((((movesOf o b.name).map (swapW b.name)).foldl pushW (b.seen, b.queue)).2.headD [])
  revert hq
  cases (((movesOf o b.name).map (swapW b.name)).foldl pushW (b.seen, b.queue)).2 with
  | nil => intro _; exact .inl rfl
  | cons a l => intro hq; exact .inr (hq a (.head _))
theorem runR_ok (S : Std r p) (O : OSgn o r) (fin : Nat → List (List Nat) → List Nat → List (List Nat) → List (List Nat) → Bool) : ∀ (fuel n : Nat), BInv r (bfJ o n) →
    runR p fin fuel n (bfJ o n).name (bfJ o n).seen (bfJ o n).queue (bfJ o n).came (bfJ o n).low (bfJ o n).high = true →
    ∃ N, n ≤ N ∧ N < n + fuel ∧ (∀ j, n ≤ j → j < N → WordOk (bfJ o j).name) ∧ (bfJ o N).name = [] ∧ BInv r (bfJ o N) ∧ fin N (bfJ o N).seen (bfJ o N).came (bfJ o N).low (bfJ o N).high = true := by
  intro fuel
  induction fuel with
  | zero => intro n _ h; exact absurd (show false = true from h) (by decide)
  | succ fuel ih =>
    intro n hB h
    cases hname : (bfJ o n).name with
    | nil =>
      rw [hname] at h
      exact ⟨n, Nat.le_refl _, by lia, fun j h1 h2 => absurd h2 (by lia), hname, hB, h⟩
    | cons a l =>
      have hW : WInv r (bfJ o n).name := hB.1.resolve_left (by rw [hname]; simp)
      have hB' := BInv.step S O hB hW
      have hmv : ∀ k ∈ movesOf o (bfJ o n).name, k < 5 := fun k hk => (moves_mem hk).1
      have key : runR p fin fuel (n + 1) (bfJ o (n + 1)).name (bfJ o (n + 1)).seen (bfJ o (n + 1)).queue (bfJ o (n + 1)).came (bfJ o (n + 1)).low (bfJ o (n + 1)).high = true := by
        have h' : runR p fin (fuel + 1) n (bfJ o n).name (bfJ o n).seen (bfJ o n).queue (bfJ o n).came (bfJ o n).low (bfJ o n).high = andR (wordR (bfJ o n).name) (pushR (bfJ o n).name (movesR p (bfJ o n).name) (bfJ o n).seen (bfJ o n).queue (fun sn' qu' => List.rec (runR p fin fuel (n + 1) [] sn' [] (appR (bfJ o n).came [invR (bfJ o n).name]) (Bool.rec (bfJ o n).low (appW (bfJ o n).low [(bfJ o n).name]) (upR p (bfJ o n).name (movesR p (bfJ o n).name))) (Bool.rec (bfJ o n).high (appW (bfJ o n).high [(bfJ o n).name]) (dnR p (bfJ o n).name (movesR p (bfJ o n).name))))
            (fun nm r _ => runR p fin fuel (n + 1) nm sn' r (appR (bfJ o n).came [invR (bfJ o n).name]) (Bool.rec (bfJ o n).low (appW (bfJ o n).low [(bfJ o n).name]) (upR p (bfJ o n).name (movesR p (bfJ o n).name))) (Bool.rec (bfJ o n).high (appW (bfJ o n).high [(bfJ o n).name]) (dnR p (bfJ o n).name (movesR p (bfJ o n).name)))) qu')) := by
          rw [hname]; rfl
        rw [h', andR_eq, Bool.and_eq_true] at h
        obtain ⟨_, h⟩ := h
        rw [upR_eq S O hW, dnR_eq S O hW, movesR_eq S O hW.1 hW.2, pushR_eq _ hW.2 _ _ _ _ hmv, appR_eq, appW_eq, appW_eq, invR_eq _ hW.2] at h
        have el : (Bool.rec (bfJ o n).low ((bfJ o n).low ++ [(bfJ o n).name]) (upB o (bfJ o n).name) : List (List Nat)) = (bfJ o (n + 1)).low := by
          show _ = (if upB o (bfJ o n).name then _ else _)
          cases upB o (bfJ o n).name <;> rfl
        have eh : (Bool.rec (bfJ o n).high ((bfJ o n).high ++ [(bfJ o n).name]) (dnB o (bfJ o n).name) : List (List Nat)) = (bfJ o (n + 1)).high := by
          show _ = (if dnB o (bfJ o n).name then _ else _)
          cases dnB o (bfJ o n).name <;> rfl
        rw [el, eh] at h
        have en : (bfJ o (n + 1)).name = (((movesOf o (bfJ o n).name).map (swapW (bfJ o n).name)).foldl pushW ((bfJ o n).seen, (bfJ o n).queue)).2.headD [] := rfl
        have eq : (bfJ o (n + 1)).queue = (((movesOf o (bfJ o n).name).map (swapW (bfJ o n).name)).foldl pushW ((bfJ o n).seen, (bfJ o n).queue)).2.tail := rfl
        have es : (bfJ o (n + 1)).seen = (((movesOf o (bfJ o n).name).map (swapW (bfJ o n).name)).foldl pushW ((bfJ o n).seen, (bfJ o n).queue)).1 := rfl
        have ec : (bfJ o (n + 1)).came = (bfJ o n).came ++ [invW (bfJ o n).name] := rfl
        rw [en, eq, es, ec]
        revert h
        cases (((movesOf o (bfJ o n).name).map (swapW (bfJ o n).name)).foldl pushW ((bfJ o n).seen, (bfJ o n).queue)).2 with
        | nil => exact fun h => h
        | cons a l => exact fun h => h
      obtain ⟨N, h1, h2, h3, h4, h5, h6⟩ := ih (n + 1) hB' key
      refine ⟨N, by lia, by lia, fun j hj1 hj2 => ?_, h4, h5, h6⟩
      by_cases e : j = n
      · subst e; exact hW.ok
      · exact h3 j (by lia) hj2
end
end Mine
end
section
set_option Elab.async false
set_option linter.unusedVariables false
namespace Mine
theorem allN_at {g : Nat → Bool} : ∀ {n : Nat}, allN n g = true → ∀ i, i < n → g i = true
  | 0, _, i, h => absurd h (by lia)
  | n + 1, h, i, hi => by
    have h' : andR (g n) (allN n g) = true := h
    rw [andR_eq, Bool.and_eq_true] at h'
    by_cases e : i = n
    · subst e; exact h'.1
    · exact allN_at h'.2 i (by lia)
theorem memR_iff (x : Nat) (l : List Nat) : memR x l = true ↔ x ∈ l := by
  induction l with
  | nil => exact ⟨fun h => absurd (show false = true from h) (by decide), fun h => nomatch h⟩
  | cons a l ih =>
    show orR (Nat.beq x a) (memR x l) = true ↔ _
    rw [orR_eq, Bool.or_eq_true, ih, Nat.beq_eq, List.mem_cons]
theorem nodR_iff (l : List Nat) : nodR l = true ↔ l.Nodup := by
  induction l with
  | nil => exact ⟨fun _ => List.nodup_nil, fun _ => rfl⟩
  | cons a l ih =>
    show (Bool.rec (nodR l) false (memR a l) : Bool) = true ↔ _
    rw [List.nodup_cons, ← memR_iff, ← ih]
    cases memR a l <;> simp
theorem lt6 {P : Nat → Prop} (h0 : P 0) (h1 : P 1) (h2 : P 2) (h3 : P 3) (h4 : P 4) (h5 : P 5) : ∀ a, a < 6 → P a
  | 0, _ => h0
  | 1, _ => h1
  | 2, _ => h2
  | 3, _ => h3
  | 4, _ => h4
  | 5, _ => h5
theorem chk2_all (a b : Nat) (ha : a < 6) (hb : b < 6) : a ≠ b → chk2 a b = true :=
  lt6 (P := fun a => a ≠ b → chk2 a b = true)
    (lt6 (P := fun b => 0 ≠ b → chk2 0 b = true) (absurd rfl) (fun _ => chk2_01) (fun _ => chk2_02) (fun _ => chk2_03) (fun _ => chk2_04) (fun _ => chk2_05) b hb)
    (lt6 (P := fun b => 1 ≠ b → chk2 1 b = true) (fun _ => chk2_10) (absurd rfl) (fun _ => chk2_12) (fun _ => chk2_13) (fun _ => chk2_14) (fun _ => chk2_15) b hb)
    (lt6 (P := fun b => 2 ≠ b → chk2 2 b = true) (fun _ => chk2_20) (fun _ => chk2_21) (absurd rfl) (fun _ => chk2_23) (fun _ => chk2_24) (fun _ => chk2_25) b hb)
    (lt6 (P := fun b => 3 ≠ b → chk2 3 b = true) (fun _ => chk2_30) (fun _ => chk2_31) (fun _ => chk2_32) (absurd rfl) (fun _ => chk2_34) (fun _ => chk2_35) b hb)
    (lt6 (P := fun b => 4 ≠ b → chk2 4 b = true) (fun _ => chk2_40) (fun _ => chk2_41) (fun _ => chk2_42) (fun _ => chk2_43) (absurd rfl) (fun _ => chk2_45) b hb)
    (lt6 (P := fun b => 5 ≠ b → chk2 5 b = true) (fun _ => chk2_50) (fun _ => chk2_51) (fun _ => chk2_52) (fun _ => chk2_53) (fun _ => chk2_54) (absurd rfl) b hb)
    a ha
theorem chk_of {a b c d e f : Nat} (h : ∀ x ∈ [a, b, c, d, e, f], x < 6) (hn : [a, b, c, d, e, f].Nodup) : chkR [a, b, c, d, e, f] = true := by
  have hab : a ≠ b := by
    simp only [List.nodup_cons, List.mem_cons, not_or] at hn
    exact hn.1.1
  have h2 := chk2_all a b (h a (by simp)) (h b (by simp)) hab
  have h3 := allN_at (allN_at (allN_at (allN_at h2 c (h c (by simp))) d (h d (by simp))) e (h e (by simp))) f (h f (by simp))
  have hr := (nodR_iff [a, b, c, d, e, f]).mpr hn
  rw [hr] at h3
  exact h3
noncomputable def lexb (r : Nat → Int) (j k : Nat) : Bool := decide (r j < r k ∨ (r j = r k ∧ j < k))
noncomputable def cntK (r : Nat → Int) (k : Nat) : Nat := ((List.range 6).filter fun j => lexb r j k).length
noncomputable def pOf (r : Nat → Int) : List Nat := (List.range 6).map (cntK r)
theorem filter_lt {f g : Nat → Bool} : ∀ (l : List Nat), (∀ x ∈ l, f x = true → g x = true) → (∃ x ∈ l, g x = true ∧ f x = false) → (l.filter f).length < (l.filter g).length
  | [], _, h => by obtain ⟨x, hx, _⟩ := h; cases hx
  | a :: l, hs, hx => by
    have le : ∀ l : List Nat, (∀ x ∈ l, f x = true → g x = true) → (l.filter f).length ≤ (l.filter g).length := by
      intro l
      induction l with
      | nil => intro _; exact Nat.le_refl _
      | cons b l ih =>
        intro h
        have := ih fun x m => h x (.tail _ m)
        rw [List.filter_cons, List.filter_cons]
        have hb := h b (.head _)
        cases hf : f b with
        | true => rw [hb hf]; simp only [if_true, List.length_cons]; omega
        | false => cases g b <;> simp <;> omega
    rw [List.filter_cons, List.filter_cons]
    have ha := hs a (.head _)
    have hs' : ∀ x ∈ l, f x = true → g x = true := fun x m => hs x (.tail _ m)
    have hle := le l hs'
    cases hf : f a with
    | true =>
      rw [ha hf]
      simp only [if_true, List.length_cons]
      obtain ⟨x, hx, h1, h2⟩ := hx
      rcases memc hx with rfl | hx
      · rw [hf] at h2; cases h2
      · have := filter_lt l hs' ⟨x, hx, h1, h2⟩; omega
    | false =>
      obtain ⟨x, hx, h1, h2⟩ := hx
      rcases memc hx with rfl | hx
      · rw [h1]; simp; omega
      · have := filter_lt l hs' ⟨x, hx, h1, h2⟩
        cases g a <;> simp <;> omega
theorem cntK_lt {r : Nat → Int} {a b : Nat} (ha : a < 6) (h : r a < r b ∨ (r a = r b ∧ a < b)) : cntK r a < cntK r b := by
  unfold cntK lexb
  refine filter_lt _ (fun x _ hx => ?_) ⟨a, List.mem_range.mpr ha, decide_eq_true h, decide_eq_false (by lia)⟩
  have hx := of_decide_eq_true hx
  exact decide_eq_true (by lia)
theorem nth_pOf (r : Nat → Int) {a : Nat} (ha : a < 6) : nth (pOf r) a = cntK r a := by
  rw [nth_eq]
  unfold pOf
  rw [List.getD_eq_getElem?_getD, List.getElem?_map, List.getElem?_range ha]; rfl
theorem pOf_std (r : Nat → Int) : Std r (pOf r) := by
  intro a b ha hb
  rw [nth_pOf r ha, nth_pOf r hb]
  constructor
  · intro h
    by_cases q : r a < r b ∨ (r a = r b ∧ a < b)
    · exact q
    · exfalso
      by_cases e : a = b
      · subst e; lia
      · have := cntK_lt (r := r) hb (a := b) (b := a) (by lia)
        lia
  · exact cntK_lt ha
theorem cntK_6 (r : Nat → Int) {k : Nat} (hk : k < 6) : cntK r k < 6 := by
  have h := filter_lt (f := fun j => lexb r j k) (g := fun _ => true) (List.range 6) (fun _ _ _ => rfl) ⟨k, List.mem_range.mpr hk, rfl, decide_eq_false (by omega)⟩
  have e : ((List.range 6).filter fun _ => true).length = 6 := by decide
  rw [e] at h
  exact h
theorem pOf_chk (r : Nat → Int) : chkR (pOf r) = true := by
  refine chk_of (a := cntK r 0) (b := cntK r 1) (c := cntK r 2) (d := cntK r 3) (e := cntK r 4) (f := cntK r 5) (fun x hx => ?_) ?_
  · simp only [List.mem_cons, List.not_mem_nil, or_false] at hx
    rcases hx with rfl | rfl | rfl | rfl | rfl | rfl <;> exact cntK_6 r (by decide)
  · have ne : ∀ a b, a < 6 → b < 6 → a < b → cntK r a ≠ cntK r b := fun a b ha hb hab e => by
      by_cases q : r a < r b ∨ (r a = r b ∧ a < b)
      · have := cntK_lt (r := r) ha q; omega
      · have := cntK_lt (r := r) hb (a := b) (b := a) (by omega); omega
    simp only [List.nodup_cons, List.mem_cons, List.not_mem_nil, or_false, not_or, List.nodup_nil, not_false_eq_true, and_true]
    refine ⟨⟨?_, ?_, ?_, ?_, ?_⟩, ⟨?_, ?_, ?_, ?_⟩, ⟨?_, ?_, ?_⟩, ⟨?_, ?_⟩, ?_⟩ <;> exact ne _ _ (by decide) (by decide) (by decide)
end Mine
end
section
set_option Elab.async false
set_option linter.unusedVariables false
namespace Mine
/-- a unit: a sign that is no backslash, or a backslash with a sign -/
noncomputable def Unit1 (u : List Nat) : Prop := (∃ c, u = [c] ∧ c ≠ 92) ∨ ∃ c, u = [92, c]
theorem Unit1.pos {u : List Nat} (h : Unit1 u) : 1 ≤ u.length := by rcases h with ⟨c, rfl, _⟩ | ⟨c, rfl⟩ <;> simp
theorem units_cons {u : List Nat} (h : Unit1 u) (p : Nat) (rest : List Nat) : unitsP p false (u ++ rest) = (p + u.length - 1, u) :: unitsP (p + u.length) false rest := by
  rcases h with ⟨c, rfl, hc⟩ | ⟨c, rfl⟩
  · show unitsP p false (c :: rest) = _
    rw [unitsP, if_neg hc]; rfl
  · show unitsP p false (92 :: c :: rest) = _
    rw [unitsP, if_pos rfl, unitsP]; rfl
/-- the places and the units of a flattened list -/
noncomputable def posU : Nat → List (List Nat) → List (Nat × List Nat)
  | _, [] => []
  | p, u :: us => (p + u.length - 1, u) :: posU (p + u.length) us
theorem units_flat : ∀ (us : List (List Nat)) (p : Nat) (rest : List Nat), (∀ u ∈ us, Unit1 u) → unitsP p false (us.flatten ++ rest) = posU p us ++ unitsP (p + us.flatten.length) false rest
  | [], p, rest, _ => rfl
  | u :: us, p, rest, h => by
    rw [List.flatten_cons, List.append_assoc, units_cons (h u (.head _)), units_flat us _ rest fun v m => h v (.tail _ m), List.length_append, ← Nat.add_assoc]
    rfl
theorem allU_flat {us : List (List Nat)} (h : ∀ u ∈ us, Unit1 u) : allU us.flatten = posU 0 us := by
  have := units_flat us 0 [] h
  rw [List.append_nil] at this
  show unitsP 0 false us.flatten = _
  rw [this, unitsP, List.append_nil]
theorem posU_snd : ∀ (us : List (List Nat)) (p : Nat), (posU p us).map (·.2) = us
  | [], _ => rfl
  | u :: us, p => by rw [posU, List.map_cons, posU_snd us]
theorem posU_app : ∀ (us vs : List (List Nat)) (p : Nat), posU p (us ++ vs) = posU p us ++ posU (p + us.flatten.length) vs
  | [], vs, p => rfl
  | u :: us, vs, p => by
    show (p + u.length - 1, u) :: posU (p + u.length) (us ++ vs) = _
    rw [posU_app us vs, List.flatten_cons, List.length_append, ← Nat.add_assoc]; rfl
theorem posU_mem : ∀ (us : List (List Nat)) (p : Nat) (x : Nat × List Nat), x ∈ posU p us → x.2 ∈ us := fun us p x h => by
  have := List.mem_map_of_mem (f := (·.2)) h
  rwa [posU_snd] at this
/-! the balance -/
noncomputable def balU : Int → List (List Nat) → Bool
  | o, [] => o == 0
  | o, u :: r => if u == [40] then balU (o + 1) r else if u == [41] then (if o - 1 < 0 then false else balU (o - 1) r) else balU o r
theorem parB_snd : ∀ (us : List (Nat × List Nat)) (o : Int), parB o us = balU o (us.map (·.2))
  | [], o => rfl
  | (p, u) :: us, o => by
    rw [parB, List.map_cons, balU, parB_snd us, parB_snd us, parB_snd us]
/-! quotes taken off -/
theorem stepS_no {l : List Nat} {x : Nat × List Nat} (h : x.2 ≠ [34]) (st : Nat × Option Nat × List (List Nat)) : stepS l st x = st := by
  obtain ⟨a, b, c⟩ := st
  obtain ⟨p, u⟩ := x
  exact stepS_other (by simpa using h)
theorem fold_no {l : List Nat} : ∀ (us : List (Nat × List Nat)) (st : Nat × Option Nat × List (List Nat)), (∀ x ∈ us, x.2 ≠ [34]) → us.foldl (stepS l) st = st
  | [], st, _ => rfl
  | x :: us, st, h => by rw [List.foldl_cons, stepS_no (h x (.head _)), fold_no us st fun y m => h y (.tail _ m)]
theorem strip_gen {us : List (List Nat)} (h : ∀ u ∈ us, Unit1 u) {start : Nat} {res : List (List Nat)} (hf : (posU 0 us).foldl (stepS us.flatten) (0, none, []) = (start, none, res)) (hs : start < us.flatten.length) {out : List Nat} (ho : (res ++ [us.flatten.drop start]).flatten = out)
    (hno : us.flatten.contains 34 = false → us.flatten = out) : stripV us.flatten = out := by
  unfold stripV
  cases hc : us.flatten.contains 34 with
  | false => rw [if_neg (by simp)]; exact hno hc
  | true =>
    rw [if_pos rfl]
    have e : stripR us.flatten (allU us.flatten).length = (start, none, res) := by
      unfold stripR
      rw [List.take_length, allU_flat h, hf]
    rw [e, if_pos hs]; exact ho
theorem strip_plain {us : List (List Nat)} (h : ∀ u ∈ us, Unit1 u) (hq : ∀ u ∈ us, u ≠ [34]) : stripV us.flatten = us.flatten := by
  by_cases hn : us.flatten = []
  · rw [hn]; rfl
  · refine strip_gen h (start := 0) (res := []) (fold_no _ _ fun x m => hq _ (posU_mem us 0 x m)) (List.length_pos_iff.mpr hn) (by simp) (fun _ => rfl)
noncomputable def qUnits : List (List (List Nat)) := [[], [[34], [40], [34]], [[34], [40], [34], [34], [41], [34]], [[34], [92, 34], [41], [34]]]
theorem strip_quoted {A C Q : List (List Nat)} (hA : ∀ u ∈ A, Unit1 u ∧ u ≠ [34]) (hC : ∀ u ∈ C, Unit1 u ∧ u ≠ [34]) (hC0 : C.flatten ≠ []) (hQ : Q ∈ qUnits) : stripV (A ++ Q ++ C).flatten = (A ++ C).flatten := by
  have hQ1 : ∀ u ∈ Q, Unit1 u := by
    simp only [qUnits, List.mem_cons, List.not_mem_nil, or_false] at hQ
    rcases hQ with rfl | rfl | rfl | rfl <;> intro u hu <;> simp only [List.mem_cons, List.not_mem_nil, or_false] at hu
    · rcases hu with rfl | rfl | rfl
      · exact .inl ⟨_, rfl, by decide⟩
      · exact .inl ⟨_, rfl, by decide⟩
      · exact .inl ⟨_, rfl, by decide⟩
    · rcases hu with rfl | rfl | rfl | rfl | rfl | rfl <;> exact .inl ⟨_, rfl, by decide⟩
    · rcases hu with rfl | rfl | rfl | rfl
      · exact .inl ⟨_, rfl, by decide⟩
      · exact .inr ⟨_, rfl⟩
      · exact .inl ⟨_, rfl, by decide⟩
      · exact .inl ⟨_, rfl, by decide⟩
  have hall : ∀ u ∈ A ++ Q ++ C, Unit1 u := fun u hu => by
    rcases List.mem_append.mp hu with hu | hu
    · rcases List.mem_append.mp hu with hu | hu
      · exact (hA u hu).1
      · exact hQ1 u hu
    · exact (hC u hu).1
  by_cases hQ0 : Q = []
  · subst hQ0
    rw [List.append_nil]
    refine strip_plain (fun u hu => (List.mem_append.mp hu).elim (fun m => (hA u m).1) fun m => (hC u m).1) (fun u hu => (List.mem_append.mp hu).elim (fun m => (hA u m).2) fun m => (hC u m).2)
  · have fl : (A ++ Q ++ C).flatten = A.flatten ++ Q.flatten ++ C.flatten := by rw [List.flatten_append, List.flatten_append]
    have cpos : 0 < C.flatten.length := List.length_pos_iff.mpr hC0
    have tk : (A ++ Q ++ C).flatten.take A.flatten.length = A.flatten := by rw [fl, List.append_assoc, List.take_left']; rfl
    have dr : (A ++ Q ++ C).flatten.drop (A.flatten.length + Q.flatten.length) = C.flatten := by
      rw [fl, List.drop_left']; rw [List.length_append]
    have hQ34 : (A ++ Q ++ C).flatten.contains 34 = true := by
      rw [fl, List.contains_iff_mem]
      refine List.mem_append_left _ (List.mem_append_right _ ?_)
      simp only [qUnits, List.mem_cons, List.not_mem_nil, or_false] at hQ
      rcases hQ with rfl | rfl | rfl | rfl
      · exact absurd rfl hQ0
      · decide
      · decide
      · decide
    have foldA : ∀ st, (posU 0 A).foldl (stepS (A ++ Q ++ C).flatten) st = st := fun st => fold_no _ _ fun x m => (hA _ (posU_mem A 0 x m)).2
    have foldC : ∀ p st, (posU p C).foldl (stepS (A ++ Q ++ C).flatten) st = st := fun p st => fold_no _ _ fun x m => (hC _ (posU_mem C p x m)).2
    refine strip_gen hall (start := A.flatten.length + Q.flatten.length) (res := if (0 : Int) != (A.flatten.length : Nat) then [A.flatten] else []) ?_ (by rw [fl, List.length_append, List.length_append]; lia) ?_ (fun h => by rw [hQ34] at h; cases h)
    · rw [posU_app, posU_app, List.foldl_append, List.foldl_append, foldA, foldC, Nat.zero_add]
      revert tk
      generalize (A ++ Q ++ C).flatten = l
      generalize A.flatten.length = a
      intro tk
      have tk0 : (l.take a).drop 0 = A.flatten := by rw [tk, List.drop_zero]
      simp only [qUnits, List.mem_cons, List.not_mem_nil, or_false] at hQ
      rcases hQ with rfl | rfl | rfl | rfl
      · exact absurd rfl hQ0
      · have s1 : stepS l (0, none, []) (a + 1 - 1, [34]) = (0, some a, []) := stepS_open rfl
        have s2 : stepS l (0, some a, []) (a + 1 + 1 - 1, [40]) = (0, some a, []) := stepS_other rfl
        have s3 : stepS l (0, some a, []) (a + 1 + 1 + 1 - 1, [34]) = (a + 3, none, if (0 : Int) != (a : Nat) then [A.flatten] else []) := by rw [stepS_close rfl, tk0]; rfl
        show stepS l (stepS l (stepS l (0, none, []) (a + 1 - 1, [34])) (a + 1 + 1 - 1, [40])) (a + 1 + 1 + 1 - 1, [34]) = _
        rw [s1, s2, s3]; rfl
      · have s1 : stepS l (0, none, []) (a + 1 - 1, [34]) = (0, some a, []) := stepS_open rfl
        have s2 : stepS l (0, some a, []) (a + 1 + 1 - 1, [40]) = (0, some a, []) := stepS_other rfl
        have s3 : stepS l (0, some a, []) (a + 1 + 1 + 1 - 1, [34]) = (a + 3, none, if (0 : Int) != (a : Nat) then [A.flatten] else []) := by rw [stepS_close rfl, tk0]; rfl
        have s4 : ∀ R, stepS l (a + 3, none, R) (a + 1 + 1 + 1 + 1 - 1, [34]) = (a + 3, some (a + 3), R) := fun R => stepS_open rfl
        have s5 : ∀ R, stepS l (a + 3, some (a + 3), R) (a + 1 + 1 + 1 + 1 + 1 - 1, [41]) = (a + 3, some (a + 3), R) := fun R => stepS_other rfl
        have s6 : ∀ R, stepS l (a + 3, some (a + 3), R) (a + 1 + 1 + 1 + 1 + 1 + 1 - 1, [34]) = (a + 6, none, R) := fun R => by rw [stepS_close rfl, if_neg (by simp)]; rfl
        show stepS l (stepS l (stepS l (stepS l (stepS l (stepS l (0, none, []) (a + 1 - 1, [34])) (a + 1 + 1 - 1, [40])) (a + 1 + 1 + 1 - 1, [34])) (a + 1 + 1 + 1 + 1 - 1, [34])) (a + 1 + 1 + 1 + 1 + 1 - 1, [41])) (a + 1 + 1 + 1 + 1 + 1 + 1 - 1, [34]) = _
        rw [s1, s2, s3, s4, s5, s6]; rfl
      · have s1 : stepS l (0, none, []) (a + 1 - 1, [34]) = (0, some a, []) := stepS_open rfl
        have s2 : stepS l (0, some a, []) (a + 1 + 2 - 1, [92, 34]) = (0, some a, []) := stepS_other rfl
        have s3 : stepS l (0, some a, []) (a + 1 + 2 + 1 - 1, [41]) = (0, some a, []) := stepS_other rfl
        have s4 : stepS l (0, some a, []) (a + 1 + 2 + 1 + 1 - 1, [34]) = (a + 5, none, if (0 : Int) != (a : Nat) then [A.flatten] else []) := by rw [stepS_close rfl, tk0]; rfl
        show stepS l (stepS l (stepS l (stepS l (0, none, []) (a + 1 - 1, [34])) (a + 1 + 2 - 1, [92, 34])) (a + 1 + 2 + 1 - 1, [41])) (a + 1 + 2 + 1 + 1 - 1, [34]) = _
        rw [s1, s2, s3, s4]; rfl
    · rw [dr]
      by_cases h0 : A.flatten.length = 0
      · have : A.flatten = [] := List.length_eq_zero_iff.mp h0
        rw [List.flatten_append (L₁ := A), this]; simp
      · rw [if_pos (bne_iff_ne.mpr (by lia))]; simp
end Mine
end
section
set_option Elab.async false
set_option linter.unusedVariables false
namespace Mine
/-! the lexer reads the names back -/
theorem inTstop {stop : Nat → Bool} {c : Nat} (h : stop c = true) (tok rest : List Nat) : inT stop tok (c :: rest) = (tok, rest) := by
  cases rest <;> rw [inT, if_pos h]
theorem inTplain {stop : Nat → Bool} {c : Nat} (h : stop c = false) (h92 : c ≠ 92) (tok rest : List Nat) : inT stop tok (c :: rest) = inT stop (tok ++ [c]) rest := by
  have h' : ¬ stop c = true := by rw [h]; decide
  cases rest with
  | nil =>
    have e : inT stop tok [c] = (tok ++ [c], []) := by rw [inT, if_neg h', if_neg h92]
    rw [e, inT]
  | cons a r => rw [inT, if_neg h', if_neg h92]
theorem inTesc {stop : Nat → Bool} (h : stop 92 = false) (c : Nat) (tok rest : List Nat) : inT stop tok (92 :: c :: rest) = inT stop (tok ++ [c]) rest := by
  have h' : ¬ stop 92 = true := by rw [h]; decide
  rw [inT, if_neg h', if_pos rfl]
theorem shown_cons (way s : Nat) (nm : List Nat) : shownOf way (s :: nm) = (if escB way s then [92, s] else [s]) ++ shownOf way nm := rfl
theorem inTshown {stop : Nat → Bool} (h92 : stop 92 = false) (way : Nat) : ∀ (nm tok rest : List Nat), (∀ s ∈ nm, escB way s = false → stop s = false ∧ s ≠ 92) → inT stop tok (shownOf way nm ++ rest) = inT stop (tok ++ nm) rest
  | [], tok, rest, _ => by rw [List.append_nil]; rfl
  | s :: nm, tok, rest, h => by
    have ih := fun tok => inTshown h92 way nm tok rest fun x m => h x (.tail _ m)
    rw [shown_cons]
    cases e : escB way s with
    | true =>
      show inT stop tok (92 :: s :: (shownOf way nm ++ rest)) = _
      rw [inTesc h92, ih, List.append_assoc]; rfl
    | false =>
      show inT stop tok (s :: (shownOf way nm ++ rest)) = _
      obtain ⟨h1, h2⟩ := h s (.head _) e
      rw [inTplain h1 h2, ih, List.append_assoc]; rfl
theorem startT_ws {c : Nat} (h : wsL.contains c = true) (rest : List Nat) : startT (c :: rest) = startT rest := by
  rw [startT, if_pos h]
noncomputable def bodyOf (way : Nat) (nm : List Nat) : List Nat := if decide (way % 4 > 1) then [34] ++ shownOf way nm ++ [34] else shownOf way nm
theorem base_signs : ∀ nm ∈ baseN, ∃ s r, nm = s :: r ∧ s ≠ 34 ∧ ∀ x ∈ nm, wsL.contains x = false := by
  intro nm h
  simp only [baseN, List.mem_cons, List.not_mem_nil, or_false] at h
  rcases h with rfl | rfl | rfl | rfl | rfl | rfl <;> exact ⟨_, _, rfl, by decide, by decide⟩
theorem start_bare {nm : List Nat} (h : nm ∈ baseN) {way : Nat} (hw : ¬ way % 4 > 1) (rest : List Nat) : startT (shownOf way nm ++ rest) = inT wsL.contains nm rest := by
  obtain ⟨s, r, e, h34, hws⟩ := base_signs nm h
  subst e
  have hs : wsL.contains s = false := hws s (.head _)
  have hr : ∀ tok, inT wsL.contains tok (shownOf way r ++ rest) = inT wsL.contains (tok ++ r) rest := fun tok => inTshown (by decide) way r tok rest fun x m e => ⟨hws x (.tail _ m), fun e' => by subst e'; unfold escB at e; simp at e⟩
  rw [shown_cons]
  cases e : escB way s with
  | true =>
    show startT (92 :: s :: (shownOf way r ++ rest)) = _
    rw [startT, if_neg (by decide), if_neg (by decide), if_pos rfl]
    show inT wsL.contains [s] (shownOf way r ++ rest) = _
    rw [hr]; rfl
  | false =>
    show startT (s :: (shownOf way r ++ rest)) = _
    have h92 : s ≠ 92 := fun e' => by subst e'; unfold escB at e; simp at e
    rw [startT, if_neg (by rw [hs]; decide), if_neg h34, if_neg h92, hr]; rfl
theorem start_quoted {nm : List Nat} (h : nm ∈ baseN) {way : Nat} (hw : way % 4 > 1) (rest : List Nat) : startT ([34] ++ shownOf way nm ++ [34] ++ rest) = (nm, rest) := by
  have e : [34] ++ shownOf way nm ++ [34] ++ rest = 34 :: (shownOf way nm ++ 34 :: rest) := by simp
  rw [e, startT, if_neg (by decide), if_pos rfl, inTshown (by decide) way nm [] _ fun x m e => ?_, inTstop rfl]; rfl
  unfold escB at e
  rw [decide_eq_true hw] at e
  simp at e
  exact ⟨by simpa using e.2.2, e.2.1⟩
theorem start_piece {nm : List Nat} (h : nm ∈ baseN) (way : Nat) {c : Nat} (hc : wsL.contains c = true) (rest : List Nat) :
    (startT (bodyOf way nm ++ c :: rest)).1 = nm ∧ startT (startT (bodyOf way nm ++ c :: rest)).2 = startT rest := by
  unfold bodyOf
  by_cases hw : way % 4 > 1
  · rw [decide_eq_true hw, if_pos rfl, start_quoted h hw]
    exact ⟨rfl, startT_ws hc rest⟩
  · rw [decide_eq_false hw, if_neg (by decide), start_bare h hw, inTstop hc]
    exact ⟨rfl, rfl⟩
theorem start_end {nm : List Nat} (h : nm ∈ baseN) (way : Nat) : startT (bodyOf way nm) = (nm, []) := by
  unfold bodyOf
  by_cases hw : way % 4 > 1
  · have := start_quoted h hw []
    rw [List.append_nil] at this
    rw [decide_eq_true hw, if_pos rfl, this]
  · have := start_bare h hw []
    rw [List.append_nil] at this
    rw [decide_eq_false hw, if_neg (by decide), this, inT]
section
variable (cs : List Nat)
noncomputable def wsOf (p : Nat) : Nat := wsL.getD (wayOf cs p / 4) 0
theorem ws_ok (p : Nat) : wsL.contains (wsOf cs p) = true := by
  have : wayOf cs p < 16 := Nat.mod_lt _ (by decide)
  have h4 : wayOf cs p / 4 < 4 := by lia
  unfold wsOf
  generalize wayOf cs p / 4 = i at *
  match i, h4 with
  | 0, _ => rfl
  | 1, _ => rfl
  | 2, _ => rfl
  | 3, _ => rfl
noncomputable def bodyK (p : Nat) : List Nat := bodyOf (wayOf cs p) ((namesOf cs).getD p [])
/-- what is to be read, from the piece 5 - j on -/
noncomputable def leftK : Nat → List Nat
  | 0 => bodyK cs 5 ++ if cv cs 7 % 2 = 1 then [] else [wsOf cs 5]
  | j + 1 => bodyK cs (5 - (j + 1)) ++ wsOf cs (5 - (j + 1)) :: leftK j
theorem text_left : textOf cs = leftK cs 5 := by
  have pk : ∀ p, pieceOf (wayOf cs p) ((namesOf cs).getD p []) = bodyK cs p ++ [wsOf cs p] := fun p => rfl
  have e : txtK cs 6 = txtK cs 5 ++ bodyK cs 5 ++ [wsOf cs 5] := by rw [txt_succ, pk, List.append_assoc]
  have l5 : leftK cs 5 = txtK cs 5 ++ leftK cs 0 := by
    rw [txt_succ, txt_succ, txt_succ, txt_succ, txt_succ, pk, pk, pk, pk, pk]
    simp only [leftK, txtK, List.append_assoc, List.range_zero, List.map_nil, List.flatten_nil, List.nil_append, List.cons_append]
  rw [l5]
  unfold textOf
  rw [e]
  by_cases h : cv cs 7 % 2 = 1
  · rw [h, List.length_append, List.length_singleton, Nat.add_sub_cancel, List.take_left', leftK, if_pos h, List.append_nil]; rfl
  · rw [show cv cs 7 % 2 = 0 by lia, Nat.sub_zero, List.take_length, leftK, if_neg h, List.append_assoc]
theorem rs_left : ∀ j, j < 6 → startT (rsK cs (5 - j)) = startT (leftK cs j) ∧ (startT (leftK cs j)).1 = (namesOf cs).getD (5 - j) [] ∧ startT (startT (leftK cs j)).2 = (if j = 0 then ([], []) else startT (leftK cs (j - 1))) := by
  have a : ∀ j, j < 6 → (startT (leftK cs j)).1 = (namesOf cs).getD (5 - j) [] ∧ startT (startT (leftK cs j)).2 = (if j = 0 then ([], []) else startT (leftK cs (j - 1))) := by
    intro j hj
    cases j with
    | zero =>
      have hm := baseN_mem cs 5 (by decide)
      rw [leftK, if_pos rfl]
      by_cases h : cv cs 7 % 2 = 1
      · rw [if_pos h, List.append_nil, bodyK, start_end hm]; exact ⟨rfl, rfl⟩
      · rw [if_neg h]; exact start_piece hm _ (ws_ok cs 5) []
    | succ j =>
      rw [leftK, if_neg (by omega)]
      exact start_piece (baseN_mem cs (5 - (j + 1)) (by omega)) _ (ws_ok cs _) _
  have b : ∀ k, k < 6 → startT (rsK cs k) = startT (leftK cs (5 - k)) := by
    intro k
    induction k with
    | zero => intro _; show startT (textOf cs) = _; rw [text_left]
    | succ k ih =>
      intro hk
      have := (a (5 - k) (by omega)).2
      rw [if_neg (by omega), ← ih (by omega)] at this
      exact this
  intro j hj
  refine ⟨?_, a j hj⟩
  rw [b (5 - j) (by omega), show 5 - (5 - j) = j by omega]
theorem law_htok : ∀ k, k < 6 → (startT (rsK cs k)).1 = (namesOf cs).getD k [] := by
  intro k hk
  obtain ⟨h1, h2, _⟩ := rs_left cs (5 - k) (by lia)
  rw [show 5 - (5 - k) = k by lia] at h1 h2
  rw [h1, h2]
theorem law_hlast : startT (rsK cs 6) = ([], []) := by
  obtain ⟨h1, _, h3⟩ := rs_left cs 0 (by omega)
  rw [if_pos rfl, ← h1] at h3
  exact h3
theorem law_hasc : (textOf cs).all (· < 128) = true := by
  have hb : ∀ p, p < 6 → ∀ x ∈ pieceOf (wayOf cs p) ((namesOf cs).getD p []), x < 128 := by
    intro p hp x hx
    have hn := (baseN_ok _ (baseN_mem cs p hp)).2
    have hs : ∀ y ∈ shownOf (wayOf cs p) ((namesOf cs).getD p []), y < 128 := by
      intro y hy
      unfold shownOf at hy
      obtain ⟨l, hl, hy⟩ := List.mem_flatten.mp hy
      obtain ⟨s, hs, rfl⟩ := List.mem_map.mp hl
      have := of_decide_eq_true (List.all_eq_true.mp hn s hs)
      split at hy <;> simp at hy <;> lia
    have hw : wsOf cs p < 128 := by
      have := ws_ok cs p
      rw [List.contains_iff_mem] at this
      simp only [wsL, List.mem_cons, List.not_mem_nil, or_false] at this
      lia
    unfold pieceOf at hx
    rcases List.mem_append.mp hx with hx | hx
    · split at hx
      · rcases List.mem_append.mp hx with hx | hx
        · rcases List.mem_append.mp hx with hx | hx
          · simp at hx; lia
          · exact hs x hx
        · simp at hx; lia
      · exact hs x hx
    · obtain rfl := mem1 hx; exact hw
  rw [List.all_eq_true]
  intro x hx
  have hx := List.mem_of_mem_take hx
  unfold txtK at hx
  obtain ⟨l, hl, hx⟩ := List.mem_flatten.mp hx
  obtain ⟨p, hp, rfl⟩ := List.mem_map.mp hl
  exact decide_eq_true (hb p (List.mem_range.mp hp) x hx)
end
end Mine
end
section
set_option Elab.async false
set_option linter.unusedVariables false
namespace Mine
/-! the order and the ranks -/
structure SgnOk (x y r s : Int) : Prop where
  v : x = -1 ∨ x = 0 ∨ x = 1
  z : x + y = 0
  lt : x < 0 ↔ r < s
  le : x ≤ 0 ↔ r ≤ s
  gt : x > 0 ↔ r > s
noncomputable def c2 (x y z t d1 d2 : Int) : Int := if x < y then -d1 else if x > y then d1 else if z < t then -d2 else if z > t then d2 else 0
theorem sgn2_fin : ∀ (p q : Bool) (x y z t : Fin 3), let d1 : Int := cond p 1 (-1); let d2 : Int := cond q 1 (-1)
    let v := c2 x.val y.val z.val t.val d1 d2; let u := c2 y.val x.val t.val z.val d1 d2
    let r : Int := x.val * d1 * 10 + (z.val * d2 * 1 + 0); let s : Int := y.val * d1 * 10 + (t.val * d2 * 1 + 0)
    (v = -1 ∨ v = 0 ∨ v = 1) ∧ v + u = 0 ∧ (v < 0 ↔ r < s) ∧ (v ≤ 0 ↔ r ≤ s) ∧ (v > 0 ↔ r > s) := by decide +kernel
theorem fin3_of {x : Int} (h : 0 ≤ x ∧ x ≤ 2) : ∃ n : Fin 3, x = n.val := ⟨⟨x.toNat, by omega⟩, by show x = (x.toNat : Int); omega⟩
theorem sign_of {d : Int} (h : d = 1 ∨ d = -1) : ∃ p : Bool, d = cond p 1 (-1) := h.elim (fun e => ⟨true, e⟩) fun e => ⟨false, e⟩
theorem sgn2 {i j : Nat} {d1 d2 : Int} (h1 : d1 = 1 ∨ d1 = -1) (h2 : d2 = 1 ∨ d2 = -1) {l r : List Int} (hl : ∀ j, 0 ≤ l.getD j 0 ∧ l.getD j 0 ≤ 2) (hr : ∀ j, 0 ≤ r.getD j 0 ∧ r.getD j 0 ≤ 2) :
    SgnOk (cmpv l r [(i, d1), (j, d2)]) (cmpv r l [(i, d1), (j, d2)]) (rankOf [(i, d1), (j, d2)] l) (rankOf [(i, d1), (j, d2)] r) := by
  have e : ∀ l : List Int, rankOf [(i, d1), (j, d2)] l = l.getD i 0 * d1 * 10 + (l.getD j 0 * d2 * 1 + 0) := fun l => rfl
  have c : ∀ l r : List Int, cmpv l r [(i, d1), (j, d2)] = c2 (l.getD i 0) (r.getD i 0) (l.getD j 0) (r.getD j 0) d1 d2 := fun l r => rfl
  rw [e, e, c, c]
  obtain ⟨p, rfl⟩ := sign_of h1
  obtain ⟨q, rfl⟩ := sign_of h2
  obtain ⟨x, ex⟩ := fin3_of (hl i)
  obtain ⟨y, ey⟩ := fin3_of (hr i)
  obtain ⟨z, ez⟩ := fin3_of (hl j)
  obtain ⟨t, et⟩ := fin3_of (hr j)
  rw [ex, ey, ez, et]
  obtain ⟨a1, a2, a3, a4, a5⟩ := sgn2_fin p q x y z t
  exact ⟨a1, a2, a3, a4, a5⟩
theorem sgn1 {i : Nat} {d1 : Int} (h1 : d1 = 1 ∨ d1 = -1) {l r : List Int} :
    SgnOk (cmpv l r [(i, d1)]) (cmpv r l [(i, d1)]) (rankOf [(i, d1)] l) (rankOf [(i, d1)] r) := by
  have e : ∀ l : List Int, rankOf [(i, d1)] l = l.getD i 0 * d1 * 10 + 0 := fun l => rfl
  rw [e, e]
  simp only [cmpv]
  generalize l.getD i 0 = x at *
  generalize r.getD i 0 = y at *
  rcases h1 with rfl | rfl <;> (constructor <;> (repeat' split) <;> lia)
theorem sgnK (c a b : Nat) : SgnOk (cmpv (thingOf a) (thingOf b) (keysOf c)) (cmpv (thingOf b) (thingOf a) (keysOf c)) (rankOf (keysOf c) (thingOf a)) (rankOf (keysOf c) (thingOf b)) := by
  have hd := keysOf_dir c
  revert hd
  unfold keysOf keysAll
  split
  · intro hd
    exact sgn1 (hd _ (.head _))
  · intro hd
    exact sgn2 (hd _ (.head _)) (hd _ (.tail _ (.head _))) (thingOf_bd a) (thingOf_bd b)
noncomputable def rkOf (cs : List Nat) (k : Nat) : Int := (ranksOf cs).getD k 0
section
variable {cs : List Nat} (hcs : cs.length = 8)
include hcs
theorem rk_eq {k : Nat} (hk : k < 6) : rkOf cs k = rankOf (keysOf (cv cs 6)) (thingOf (cv cs k)) := by
  unfold rkOf ranksOf
  have h := take6 hcs
  rw [map_range6 _ _ h.1, List.getD_eq_getElem?_getD, List.getElem?_map, List.getElem?_range hk]
  show rankOf _ (thingOf ((cs.take 6).getD k 0)) = _
  rw [h.2 k hk]
theorem sgnC {i j : Nat} (hi : i < 6) (hj : j < 6) : SgnOk (ordOf cs i j) (ordOf cs j i) (rkOf cs i) (rkOf cs j) := by
  rw [rk_eq hcs hi, rk_eq hcs hj]
  exact sgnK (cv cs 6) (cv cs i) (cv cs j)
theorem law_hord : ∀ i j, i < 6 → j < 6 → (ordOf cs i j = -1 ∨ ordOf cs i j = 0 ∨ ordOf cs i j = 1) ∧ ordOf cs i j + ordOf cs j i = 0 := fun i j hi hj => ⟨(sgnC hcs hi hj).v, (sgnC hcs hi hj).z⟩
theorem law_osgn : OSgn (ordOf cs) (rkOf cs) := ⟨fun i j hi hj => (sgnC hcs hi hj).lt, fun i j hi hj => (sgnC hcs hi hj).le, fun i j hi hj => (sgnC hcs hi hj).gt⟩
end
end Mine
end
section
set_option Elab.async false
set_option linter.unusedVariables false
namespace Mine
/-! the tree's symbols -/
noncomputable def namesA (a : Nat) : List (List Nat) := (List.range 6).map fun k => baseN.getD ((a + k) % 6) []
theorem names_A (cs : List Nat) : namesOf cs = namesA (cv cs 6 / 24 % 6) := by
  unfold namesOf namesA
  refine List.map_congr_left fun k _ => ?_
  rw [Nat.mod_add_mod]
theorem unitA : ∀ a < 6, ∀ t < 8, unitOf (namesA a) t ≠ [34] ∧ (unitOf (namesA a) t = [40] ↔ t = 0) ∧ (unitOf (namesA a) t = [41] ↔ t = 1) ∧ ∀ t' < 8, unitOf (namesA a) t = unitOf (namesA a) t' → t = t' := by decide
section
variable (cs : List Nat)
noncomputable abbrev uOf (t : Nat) : List Nat := unitOf (namesOf cs) t
theorem u_facts {t : Nat} (ht : t < 8) : uOf cs t ≠ [34] ∧ (uOf cs t = [40] ↔ t = 0) ∧ (uOf cs t = [41] ↔ t = 1) ∧ ∀ t' < 8, uOf cs t = uOf cs t' → t = t' := by
  unfold uOf
  rw [names_A]
  exact unitA _ (Nat.mod_lt _ (by decide)) t ht
theorem u_unit {t : Nat} (ht : t < 8) : Unit1 (uOf cs t) := by
  match t, ht with
  | 0, _ => exact .inl ⟨40, rfl, by decide⟩
  | 1, _ => exact .inl ⟨41, rfl, by decide⟩
  | k + 2, h =>
    have := baseN_mem cs k (by omega)
    show Unit1 ((namesOf cs).getD k [])
    generalize (namesOf cs).getD k [] = nm at *
    simp only [baseN, List.mem_cons, List.not_mem_nil, or_false] at this
    rcases this with rfl | rfl | rfl | rfl | rfl | rfl
    · exact .inl ⟨_, rfl, by decide⟩
    · exact .inr ⟨_, rfl⟩
    · exact .inr ⟨_, rfl⟩
    · exact .inr ⟨_, rfl⟩
    · exact .inr ⟨_, rfl⟩
    · exact .inl ⟨_, rfl, by decide⟩
theorem bal_eq : ∀ (ts : List Nat) (o : Nat), (∀ t ∈ ts, t < 8) → balU (o : Nat) (ts.map (uOf cs)) = balR ts o := by
  intro ts
  induction ts with
  | nil =>
    intro o _
    show ((o : Int) == 0) = Nat.beq o 0
    rw [Bool.eq_iff_iff, beq_iff_eq, Nat.beq_eq]; lia
  | cons t ts ih =>
    intro o h
    have h8 := h t (.head _)
    obtain ⟨_, f0, f1, _⟩ := u_facts cs h8
    have ih := fun o => ih o fun x m => h x (.tail _ m)
    rw [List.map_cons, balU]
    match t, h8, f0, f1 with
    | 0, _, _, _ =>
      rw [if_pos (by rfl)]
      exact ih (o + 1)
    | 1, _, _, _ =>
      rw [if_neg (show ¬ (uOf cs 1 == [40]) = true from fun e => nomatch (show (([41] : List Nat) == [40]) = true from e)), if_pos (by rfl)]
      cases o with
      | zero => rfl
      | succ o =>
        rw [if_neg (by lia), show ((o + 1 : Nat) : Int) - 1 = (o : Nat) by lia]
        exact ih o
    | k + 2, _, f0, f1 =>
      have n0 : uOf cs (k + 2) ≠ [40] := fun e => absurd (f0.mp e) (by lia)
      have n1 : uOf cs (k + 2) ≠ [41] := fun e => absurd (f1.mp e) (by lia)
      rw [if_neg (by simpa using n0), if_neg (by simpa using n1)]
      exact ih o
theorem bal_off (m : List Nat) : ∀ (l : List Nat) (o : Nat), balR l (o + 1) = true → balR (l ++ m) o = false := by
  intro l
  induction l with
  | nil => intro o h; exact absurd (Nat.eq_of_beq_eq_true h) (by lia)
  | cons a l ih =>
    intro o h
    match a, h with
    | 0, h => exact ih (o + 1) h
    | 1, h =>
      cases o with
      | zero => rfl
      | succ o => exact ih o h
    | k + 2, h => exact ih o h
variable {T : List Nat} (hT : ∀ t ∈ T, t < 8)
include hT
theorem T_ok : ∀ u ∈ T.map (uOf cs), Unit1 u ∧ u ≠ [34] := fun u hu => by
  obtain ⟨t, ht, rfl⟩ := List.mem_map.mp hu
  exact ⟨u_unit cs (hT t ht), (u_facts cs (hT t ht)).1⟩
theorem par_T : parB 0 (allU (T.map (uOf cs)).flatten) = balR T 0 := by
  rw [parB_snd, allU_flat fun u m => (T_ok cs hT u m).1, posU_snd]
  exact bal_eq cs T 0 hT
theorem check_T : checkV (T.map (uOf cs)).flatten = balR T 0 := by
  unfold checkV
  rw [strip_plain (fun u m => (T_ok cs hT u m).1) (fun u m => (T_ok cs hT u m).2), par_T cs hT]
theorem nth_lt {i : Nat} : nth T i < 8 := by
  rw [nth_eq, List.getD_eq_getElem?_getD]
  cases h : T[i]? with
  | none => decide
  | some t => exact hT t (List.mem_of_getElem? h)
omit hT in
theorem getD_T {i : Nat} (h : i < T.length) : (T.map (uOf cs)).getD i [] = uOf cs (nth T i) := by
  rw [nth_eq, List.getD_eq_getElem?_getD, List.getD_eq_getElem?_getD, List.getElem?_map, List.getElem?_eq_getElem h]; rfl
omit hT in
theorem get_T {i : Nat} (h : i < T.length) : (T.map (uOf cs))[i]? = some (uOf cs (nth T i)) := by
  rw [nth_eq, List.getD_eq_getElem?_getD, List.getElem?_map, List.getElem?_eq_getElem h]; rfl
theorem get_T_iff {i x : Nat} (hx : x < 8) : (T.map (uOf cs))[i]? = some (uOf cs x) ↔ i < T.length ∧ nth T i = x := by
  constructor
  · intro h
    have hi : i < T.length := by
      have := (List.getElem?_eq_some_iff.mp h).1
      rwa [List.length_map] at this
    rw [get_T cs hi] at h
    exact ⟨hi, (u_facts cs (nth_lt hT)).2.2.2 x hx (Option.some.inj h)⟩
  · rintro ⟨hi, rfl⟩
    exact get_T cs hi
theorem mate_eq (i j : Nat) : isMate (T.map (uOf cs)) i j = mateR T i j := by
  unfold isMate mateR
  rw [andR_eq, andR_eq, lenR_eq, dropR_eq, takeR_eq, ← List.map_take, ← List.map_drop, check_T cs (fun t m => hT t (List.mem_of_mem_take (List.mem_of_mem_drop m)))]
  by_cases h : j < T.length
  · rw [getD_T cs h, show Nat.ble (Nat.succ j) T.length = true from Nat.ble_eq.mpr h, Bool.true_and]
    congr 1
    rw [Bool.eq_iff_iff, beq_iff_eq, Nat.beq_eq]
    exact (u_facts cs (nth_lt hT)).2.2.1
  · have e1 : (T.map (uOf cs)).getD j [] = [] := by
      rw [List.getD_eq_getElem?_getD, List.getElem?_eq_none (by rw [List.length_map]; lia)]; rfl
    have e2 : nth T j = 0 := by
      rw [nth_eq, List.getD_eq_getElem?_getD, List.getElem?_eq_none (by lia)]; rfl
    rw [e1, e2]; rfl
omit hT in
theorem rem_units : ∃ Q ∈ qUnits, remOf cs = Q.flatten := by
  have := remOf_mem cs
  generalize remOf cs = r at *
  simp only [remL, List.mem_cons, List.not_mem_nil, or_false] at this
  rcases this with rfl | rfl | rfl | rfl
  · exact ⟨_, .head _, rfl⟩
  · exact ⟨_, .tail _ (.head _), rfl⟩
  · exact ⟨_, .tail _ (.tail _ (.head _)), rfl⟩
  · exact ⟨_, .tail _ (.tail _ (.tail _ (.head _))), rfl⟩
theorem flat_ne (hne : T ≠ []) : (T.map (uOf cs)).flatten ≠ [] := by
  cases T with
  | nil => exact absurd rfl hne
  | cons t T =>
    have := (u_unit cs (hT t (.head _))).pos
    rw [List.map_cons, List.flatten_cons]
    intro e
    have := congrArg List.length e
    rw [List.length_append] at this
    simp only [List.length_nil] at this
    lia
theorem hc1_T (hb : balR T 0 = true) (hne : T ≠ []) : checkV (remOf cs ++ (T.map (uOf cs)).flatten) = true := by
  obtain ⟨Q, hQ, e⟩ := rem_units cs
  have s := strip_quoted (A := []) (C := T.map (uOf cs)) (Q := Q) (fun u h => nomatch h) (T_ok cs hT) (flat_ne cs hT hne) hQ
  rw [List.nil_append, List.nil_append, List.flatten_append, ← e] at s
  unfold checkV
  rw [s, par_T cs hT, hb]
theorem hc2_T (hb : balR T 0 = true) (h0 : T.head? = some 0) : checkV ((T.map (uOf cs)).flatten.drop 1 ++ remOf cs ++ (T.map (uOf cs)).flatten.take 1) = false := by
  obtain ⟨Q, hQ, e⟩ := rem_units cs
  cases T with
  | nil => cases h0
  | cons t T =>
    obtain rfl : t = 0 := Option.some.inj h0
    have hT' : ∀ t ∈ T, t < 8 := fun t m => hT t (.tail _ m)
    have s := strip_quoted (A := T.map (uOf cs)) (C := [0].map (uOf cs)) (Q := Q) (T_ok cs hT') (T_ok cs (by simp)) (flat_ne cs (by simp) (by simp)) hQ
    have hall : ∀ t ∈ T ++ [0], t < 8 := fun t m => (List.mem_append.mp m).elim (hT' t) fun m => by obtain rfl := mem1 m; decide
    rw [List.flatten_append, List.flatten_append, ← e, ← List.map_append] at s
    have f0 : ((0 :: T).map (uOf cs)).flatten = [40] ++ (T.map (uOf cs)).flatten := by rw [List.map_cons, List.flatten_cons]; rfl
    have f1 : ((0 :: T).map (uOf cs)).flatten.drop 1 = (T.map (uOf cs)).flatten := by rw [f0]; rfl
    have f2 : ((0 :: T).map (uOf cs)).flatten.take 1 = ([0].map (uOf cs)).flatten := by rw [f0, List.map_singleton, List.flatten_singleton]; rfl
    rw [f1, f2]
    unfold checkV
    rw [s, par_T cs hall]
    exact bal_off [0] T 0 hb
theorem hun_T : (allU (T.map (uOf cs)).flatten).map (·.2) = T.map (uOf cs) := by
  rw [allU_flat fun u m => (T_ok cs hT u m).1, posU_snd]
end
theorem tree_lt (r : Nat → Int) : ∀ (f : Nat) (w : List Nat), (∀ x ∈ w, x < 6) → ∀ t ∈ treeT r f w, t < 8 := by
  intro f
  induction f with
  | zero => intro w _ t h; rw [treeT] at h; cases h
  | succ f ih =>
    intro w hw t h
    cases w with
    | nil => rw [treeT] at h; cases h; intro e; cases e
    | cons a w =>
      have hl := last_lt hw
      have hd : ∀ x ∈ (a :: w).dropLast, x < 6 := fun x m => hw x (List.dropLast_subset _ m)
      rw [treeT] at h
      simp only [List.mem_cons, List.mem_append] at h
      rcases h with rfl | rfl | h | rfl | h
      · decide
      · lia
      · exact ih _ (fun x m => hd x (List.mem_filter.mp m).1) t h
      · decide
      · exact ih _ (fun x m => hd x (List.mem_filter.mp m).1) t h
end Mine
end
section
set_option Elab.async false
set_option linter.unusedVariables false
namespace Mine
/-! the tree read -/
theorem forceN_eq : ∀ (n : Nat) (k : Nat → Bool), forceN n k = k n := by
  intro n
  induction n with
  | zero => intro k; rfl
  | succ n ih => intro k; exact ih fun m => k (Nat.succ m)
theorem forceL_eq : ∀ (l : List Nat) (k : List Nat → Bool), forceL l k = k l := by
  intro l
  induction l with
  | nil => intro k; rfl
  | cons a l ih =>
    intro k
    show forceN a (fun a' => forceL l (fun r => k (a' :: r))) = _
    rw [forceN_eq, ih]
theorem beq_cases (i b : Nat) : (i = b ∧ Nat.beq i b = true) ∨ (i ≠ b ∧ Nat.beq i b = false) := by
  by_cases h : i = b
  · exact .inl ⟨h, Nat.beq_eq.mpr h⟩
  · exact .inr ⟨h, by rw [Bool.eq_false_iff]; intro e; exact h (Nat.eq_of_beq_eq_true e)⟩
section
variable (T M : List Nat)
theorem size_eq (f i b : Nat) : sizeR M (f + 1) i b = if i = b then 0 else sizeR M f (i + 2) (nth M i) + (sizeR M f (nth M i + 1) b + 1) := by
  show (Bool.rec (sizeR M f (i + 2) (nth M i) + (sizeR M f (nth M i + 1) b + 1)) 0 (Nat.beq i b) : Nat) = _
  rcases beq_cases i b with ⟨h, e⟩ | ⟨h, e⟩
  · rw [e, if_pos h]
  · rw [e, if_neg h]
theorem ways_eq (f i b : Nat) : waysR M (f + 1) i b = if i = b then 1 else sizeR M (f + 1) i b * waysR M f (i + 2) (nth M i) * waysR M f (nth M i + 1) b := by
  show (Bool.rec (sizeR M (f + 1) i b * waysR M f (i + 2) (nth M i) * waysR M f (nth M i + 1) b) 1 (Nat.beq i b) : Nat) = _
  rcases beq_cases i b with ⟨h, e⟩ | ⟨h, e⟩
  · rw [e, if_pos h]
  · rw [e, if_neg h]
theorem low_eq (f i b : Nat) : lowR T M (f + 1) i b = if i = b then [] else lowR T M f (i + 2) (nth M i) ++ lowR T M f (nth M i + 1) b ++ [nth T (i + 1)] := by
  show (Bool.rec (appR (lowR T M f (i + 2) (nth M i)) (appR (lowR T M f (nth M i + 1) b) [nth T (i + 1)])) [] (Nat.beq i b) : List Nat) = _
  rcases beq_cases i b with ⟨h, e⟩ | ⟨h, e⟩
  · rw [e, if_pos h]
  · rw [e, if_neg h, appR_eq, appR_eq, List.append_assoc]
theorem high_eq (f i b : Nat) : highR T M (f + 1) i b = if i = b then [] else highR T M f (nth M i + 1) b ++ highR T M f (i + 2) (nth M i) ++ [nth T (i + 1)] := by
  show (Bool.rec (appR (highR T M f (nth M i + 1) b) (appR (highR T M f (i + 2) (nth M i)) [nth T (i + 1)])) [] (Nat.beq i b) : List Nat) = _
  rcases beq_cases i b with ⟨h, e⟩ | ⟨h, e⟩
  · rw [e, if_pos h]
  · rw [e, if_neg h, appR_eq, appR_eq, List.append_assoc]
theorem ok_eq {f i b : Nat} (h : okR T M (f + 1) i b = true) : i = b ∨ (i ≠ b ∧ isOpR T i = true ∧ i + 2 ≤ T.length ∧ okR T M f (i + 2) (nth M i) = true ∧ okR T M f (nth M i + 1) b = true) := by
  have h' : orR (Nat.beq i b) (andR (isOpR T i) (andR (Nat.ble (i + 2) (lenR T)) (andR (okR T M f (i + 2) (nth M i)) (okR T M f (nth M i + 1) b)))) = true := h
  simp only [orR_eq, andR_eq, Bool.or_eq_true, Bool.and_eq_true, Nat.beq_eq, Nat.ble_eq, lenR_eq] at h'
  by_cases e : i = b
  · exact .inl e
  · exact .inr ⟨e, h'.resolve_left e⟩
theorem ways_pos : ∀ f i b, 1 ≤ waysR M f i b := by
  intro f
  induction f with
  | zero => intro i b; exact Nat.le_refl 1
  | succ f ih =>
    intro i b
    rw [ways_eq]
    split
    · exact Nat.le_refl 1
    · rename_i h
      have : 1 ≤ sizeR M (f + 1) i b := by rw [size_eq, if_neg h]; lia
      exact Nat.mul_pos (Nat.mul_pos this (ih _ _)) (ih _ _)
theorem low_len : ∀ f i b, (lowR T M f i b).length = sizeR M f i b := by
  intro f
  induction f with
  | zero => intro i b; rfl
  | succ f ih =>
    intro i b
    rw [low_eq, size_eq]
    split
    · rfl
    · rw [List.length_append, List.length_append, ih, ih, List.length_singleton]; lia
theorem high_len : ∀ f i b, (highR T M f i b).length = sizeR M f i b := by
  intro f
  induction f with
  | zero => intro i b; rfl
  | succ f ih =>
    intro i b
    rw [high_eq, size_eq]
    split
    · rfl
    · rw [List.length_append, List.length_append, ih, ih, List.length_singleton]; lia
variable (cs : List Nat)
theorem read_eq : ∀ f i b, okR T M f i b = true → readF (T.map (uOf cs)) (nth M) f i b = (sizeR M f i b, waysR M f i b, (lowR T M f i b).map (uOf cs), (highR T M f i b).map (uOf cs)) := by
  intro f
  induction f with
  | zero => intro i b _; rfl
  | succ f ih =>
    intro i b h
    rcases ok_eq T M h with e | ⟨e, _, hl, h1, h2⟩
    · rw [size_eq, ways_eq, low_eq, high_eq, if_pos e, if_pos e, if_pos e, if_pos e, readF, if_pos e]; rfl
    · have g : (T.map (uOf cs)).getD (i + 1) [] = uOf cs (nth T (i + 1)) := getD_T cs (by lia)
      rw [ways_eq, size_eq, low_eq, high_eq, if_neg e, if_neg e, if_neg e, if_neg e, readF, if_neg e, ih _ _ h1, ih _ _ h2, g]
      simp only [List.map_append, List.map_cons, List.map_nil]
theorem okRead_T : ∀ f i b, okR T M f i b = true → waysR M f i b ≤ 720 → okRead (T.map (uOf cs)) (nth M) f i b = true := by
  intro f
  induction f with
  | zero =>
    intro i b h _
    have : i = b := Nat.eq_of_beq_eq_true h
    rw [okRead]; exact beq_iff_eq.mpr this
  | succ f ih =>
    intro i b h hw
    rcases ok_eq T M h with e | ⟨e, ho, hl, h1, h2⟩
    · rw [okRead, beq_iff_eq.mpr e, Bool.true_or]
    · rw [ways_eq, if_neg e] at hw
      have hs : sizeR M (f + 1) i b = sizeR M f (i + 2) (nth M i) + (sizeR M f (nth M i + 1) b + 1) := by rw [size_eq, if_neg e]
      rw [hs] at hw
      have p1 := ways_pos M f (i + 2) (nth M i)
      have p2 := ways_pos M f (nth M i + 1) b
      have r1 := read_eq T M cs f _ _ h1
      have r2 := read_eq T M cs f _ _ h2
      have l1 := low_len T M f (i + 2) (nth M i)
      have l2 := low_len T M f (nth M i + 1) b
      have l3 := high_len T M f (i + 2) (nth M i)
      have l4 := high_len T M f (nth M i + 1) b
      generalize hx : sizeR M f (i + 2) (nth M i) = x at *
      generalize hy : sizeR M f (nth M i + 1) b = y at *
      have b1 : (x + (y + 1)) * waysR M f (i + 2) (nth M i) ≤ 720 := Nat.le_trans (Nat.le_mul_of_pos_right _ p2) hw
      have b2 : x + (y + 1) ≤ 720 := Nat.le_trans (Nat.le_mul_of_pos_right _ p1) b1
      have b3 : waysR M f (i + 2) (nth M i) ≤ 720 := Nat.le_trans (Nat.le_mul_of_pos_left _ (by lia)) b1
      have b4 : waysR M f (nth M i + 1) b ≤ 720 := Nat.le_trans (Nat.le_mul_of_pos_left _ (Nat.mul_pos (by lia) p1)) hw
      have g : (T.map (uOf cs)).getD i [] = [40] := by
        unfold isOpR at ho
        rw [andR_eq, Bool.and_eq_true, Nat.beq_eq] at ho
        rw [getD_T cs (by lia), ho.1]; rfl
      rw [okRead]
      simp only [r1, r2, g, Bool.or_eq_true, Bool.and_eq_true, decide_eq_true_eq, List.length_map, l1, l2, l3, l4]
      exact .inr ⟨⟨⟨⟨⟨⟨⟨beq_self_eq_true _, by lia⟩, by lia⟩, by lia⟩, by lia⟩, by lia⟩, ih _ _ h1 b3⟩, ih _ _ h2 b4⟩
/-! mates -/
theorem find_le (i : Nat) : ∀ f j, j ≤ findR T i f j ∧ ∀ k, j ≤ k → k < findR T i f j → mateR T i k = false := by
  intro f
  induction f with
  | zero => intro j; exact ⟨Nat.le_refl _, fun k h1 h2 => absurd h1 (Nat.not_le.mpr h2)⟩
  | succ f ih =>
    intro j
    have e : findR T i (f + 1) j = Bool.rec (findR T i f (j + 1)) j (mateR T i j) := rfl
    rw [e]
    cases hm : mateR T i j with
    | true => exact ⟨Nat.le_refl _, fun k h1 h2 => absurd h1 (Nat.not_le.mpr h2)⟩
    | false =>
      obtain ⟨h1, h2⟩ := ih (j + 1)
      refine ⟨Nat.le_trans (Nat.le_succ _) h1, fun k k1 k2 => ?_⟩
      by_cases q : k = j
      · subst q; exact hm
      · exact h2 k (by lia) k2
theorem mates_at {i : Nat} (h : i < 18) (h0 : nth T i = 0) : nth (matesR T) i = findR T i 18 (i + 2) := by
  have e : matesR T = (List.range 18).map (fun i => Nat.rec (findR T i 18 (i + 2)) (fun _ _ => 0) (nth T i)) := by
    unfold matesR; rw [mapR_eq]; rfl
  rw [nth_eq, e, List.getD_eq_getElem?_getD, List.getElem?_map, List.getElem?_range h]
  show (Nat.rec (findR T i 18 (i + 2)) (fun _ _ => 0) (nth T i) : Nat) = _
  rw [h0]; rfl
theorem matesOk_at {M : List Nat} (hM : matesOkR T M = true) {i : Nat} (h : i < 18) (h0 : nth T i = 0) : mateR T i (nth M i) = true := by
  have all : ∀ l : List Nat, (List.rec true (fun i _ ih => andR (Nat.rec (mateR T i (nth M i)) (fun _ _ => true) (nth T i)) ih) l : Bool) = true → ∀ i ∈ l, nth T i = 0 → mateR T i (nth M i) = true := by
    intro l
    induction l with
    | nil => intro _ i m; cases m
    | cons a l ih =>
      intro hh i m e
      have hh' : andR (Nat.rec (mateR T a (nth M a)) (fun _ _ => true) (nth T a)) (List.rec true (fun i _ ih => andR (Nat.rec (mateR T i (nth M i)) (fun _ _ => true) (nth T i)) ih) l) = true := hh
      rw [andR_eq, Bool.and_eq_true] at hh'
      rcases memc m with rfl | m
      · have := hh'.1; rw [e] at this; exact this
      · exact ih hh'.2 i m e
  refine all [0, 1, 2, 3, 4, 5, 6, 7, 8, 9, 10, 11, 12, 13, 14, 15, 16, 17] hM i ?_ h0
  show i ∈ List.range 18
  exact List.mem_range.mpr h
theorem hm_T (hT : ∀ t ∈ T, t < 8) (hl : T.length = 18) (hM : matesOkR T (matesR T) = true) : ∀ i, (T.map (uOf cs))[i]? = some [40] → i + 2 ≤ nth (matesR T) i ∧ nth (matesR T) i < (T.map (uOf cs)).length ∧ isMate (T.map (uOf cs)) i (nth (matesR T) i) = true ∧ ∀ j, i + 2 ≤ j → j < nth (matesR T) i → isMate (T.map (uOf cs)) i j = false := by
  intro i hi
  obtain ⟨h1, h2⟩ := (get_T_iff cs hT (x := 0) (by decide)).mp hi
  have hk := matesOk_at T hM (by lia) h2
  have hf := find_le T i 18 (i + 2)
  rw [← mates_at T (by lia) h2] at hf
  refine ⟨hf.1, ?_, by rw [mate_eq cs hT]; exact hk, fun j j1 j2 => by rw [mate_eq cs hT]; exact hf.2 j j1 j2⟩
  unfold mateR at hk
  rw [andR_eq, andR_eq, Bool.and_eq_true, Bool.and_eq_true, Nat.ble_eq, lenR_eq] at hk
  rw [List.length_map]; exact hk.2.1
end
end Mine
end
section
set_option Elab.async false
set_option linter.unusedVariables false
namespace Mine
/-! the tree turned -/
section
variable (cs : List Nat) {T M : List Nat} (hT : ∀ t ∈ T, t < 8)
include hT
theorem turnC_eq (f : Nat) {lo : Nat} (hlo : lo < 8) : turnC (T.map (uOf cs)) f (uOf cs lo) = turnCR T f lo := by
  unfold turnC turnCR
  rw [eqR_eq, dropR_eq, takeR_eq, ← List.map_take, ← List.map_drop]
  have hl : ∀ t ∈ (T.take (f + 4)).drop (f + 3), t < 8 := fun t m => hT t (List.mem_of_mem_take (List.mem_of_mem_drop m))
  generalize (T.take (f + 4)).drop (f + 3) = l at *
  rw [Bool.eq_iff_iff, beq_iff_eq, beq_iff_eq]
  constructor
  · intro h
    match l, h, hl with
    | [x], h, hl =>
      have e : uOf cs x = uOf cs lo := (List.cons.inj h).1
      rw [(u_facts cs (hl x (.head _))).2.2.2 lo hlo e]
    | x :: y :: l, h, _ => exact absurd (congrArg List.length h) (by simp)
  · rintro rfl; rfl
theorem turn_eq (f : Nat) {up lo : Nat} (hlo : lo < 8) : turnF (T.map (uOf cs)) (nth M) f (uOf cs up) (uOf cs lo) = (turnR T M f up lo).map (uOf cs) := by
  unfold turnF turnR
  rw [turnC_eq cs hT f hlo]
  cases turnCR T f lo with
  | true =>
    simp only [if_true, appR_eq, takeR_eq, dropR_eq, List.map_append, List.map_cons, List.map_take, List.map_drop]
    simp only [List.append_assoc, List.cons_append, List.nil_append]
    rfl
  | false =>
    rw [if_neg (by decide)]
    simp only [appR_eq, takeR_eq, dropR_eq, List.map_append, List.map_cons, List.map_take, List.map_drop]
    simp only [List.append_assoc, List.cons_append, List.nil_append]
    rfl
omit hT in
theorem isOp_iff {i : Nat} : isOpR T i = true ↔ i < T.length ∧ nth T i = 0 := by
  unfold isOpR
  rw [andR_eq, Bool.and_eq_true, Nat.beq_eq, Nat.ble_eq, lenR_eq]
  exact ⟨fun h => ⟨h.2, h.1⟩, fun h => ⟨h.2, h.1⟩⟩
theorem isOp_get {i : Nat} (h : isOpR T i = true) : (T.map (uOf cs))[i]? = some [40] := (get_T_iff cs hT (x := 0) (by decide)).mpr (isOp_iff.mp h)
omit hT in
theorem idx_min (x : Nat) : ∀ (l : List Nat) (j : Nat), j < l.length → j < idxR x l → nth l j ≠ x := by
  intro l
  induction l with
  | nil => intro j h; exact absurd h (by simp)
  | cons a l ih =>
    intro j hj h
    have e : idxR x (a :: l) = Bool.rec (Nat.succ (idxR x l)) 0 (Nat.beq x a) := rfl
    rw [e] at h
    rcases beq_cases x a with ⟨q, e⟩ | ⟨q, e⟩
    · rw [e] at h; exact absurd h (Nat.not_lt_zero _)
    · rw [e] at h
      cases j with
      | zero => exact fun z => q z.symm
      | succ j => exact ih j (by simpa using hj) (Nat.lt_of_succ_lt_succ h)
variable {r : Nat → Int} {p : List Nat} {o : Nat → Nat → Int}
theorem turn_T (S : Std r p) (O : OSgn o r) (hI : Inv r [0, 1, 2, 3, 4, 5]) {k : Nat} (hk : k < 5) (hr : r k ≠ r (k + 1)) (h : turnOkR p T M k = true) :
    (freeB o [0, 1, 2, 3, 4, 5] k = true → treeT r 6 (swapW [0, 1, 2, 3, 4, 5] k) = T) ∧
    (freeB o [0, 1, 2, 3, 4, 5] k = false → TurnOk (T.map (uOf cs)) (nth M) (Nat.pred (idxR (k + 3) T)) (uOf cs (k + 3)) (uOf cs (k + 2)) ∧
      (treeT r 6 (swapW [0, 1, 2, 3, 4, 5] k)).map (uOf cs) = turnF (T.map (uOf cs)) (nth M) (Nat.pred (idxR (k + 3) T)) (uOf cs (k + 3)) (uOf cs (k + 2))) := by
  have g : ∀ j, j < 6 → ([0, 1, 2, 3, 4, 5] : List Nat).getD j 0 = j := fun j hj => by
    show (List.range 6).getD j 0 = j
    rw [List.getD_eq_getElem?_getD, List.getElem?_range hj]; rfl
  have et : treeR p 6 (swapR [0, 1, 2, 3, 4, 5] k) = treeT r 6 (swapW [0, 1, 2, 3, 4, 5] k) := by
    have hlt : k + 1 < ([0, 1, 2, 3, 4, 5] : List Nat).length := by show k + 1 < 6; lia
    rw [swapR_eq _ k hlt]
    exact treeR_eq S 6 _ (hI.swap hlt (by rw [g k (by lia), g (k + 1) (by lia)]; exact hr))
  unfold turnOkR at h
  rw [(freeR_eq S O hI rfl hk).1, et] at h
  generalize treeT r 6 (swapW [0, 1, 2, 3, 4, 5] k) = W at *
  cases hf : freeB o [0, 1, 2, 3, 4, 5] k with
  | true =>
    rw [hf] at h
    exact ⟨fun _ => (eqR_iff _ _).mp h, fun e => nomatch e⟩
  | false =>
    rw [hf] at h
    refine ⟨fun e => (nomatch e), fun _ => ?_⟩
    have h' : andR (Nat.beq (nth T (Nat.pred (idxR (k + 3) T) + 1)) (k + 3)) (andR (isOpR T (Nat.pred (idxR (k + 3) T))) (andR (Bool.rec (isOpR T (nth M (Nat.pred (idxR (k + 3) T)) + 1)) (isOpR T (Nat.pred (idxR (k + 3) T) + 2)) (turnCR T (Nat.pred (idxR (k + 3) T)) (k + 2))) (eqR W (turnR T M (Nat.pred (idxR (k + 3) T)) (k + 3) (k + 2))))) = true := h
    clear h
    have hmin := idx_min (k + 3) T
    have hpre : ∀ j, j < Nat.pred (idxR (k + 3) T) + 1 → j = 0 ∧ idxR (k + 3) T = 0 ∨ j < idxR (k + 3) T := fun j hj => by
      cases q : idxR (k + 3) T with
      | zero => rw [q] at hj; exact .inl ⟨by simpa using hj, rfl⟩
      | succ n => rw [q] at hj; exact .inr hj
    have hz : idxR (k + 3) T = 0 → Nat.pred (idxR (k + 3) T) = 0 := fun e => by rw [e]; rfl
    generalize Nat.pred (idxR (k + 3) T) = f at *
    rw [andR_eq, andR_eq, andR_eq, Bool.and_eq_true, Bool.and_eq_true, Bool.and_eq_true, Nat.beq_eq] at h'
    obtain ⟨h1, h2, h3, h4⟩ := h'
    have hlen : f + 1 < T.length := by
      refine Nat.lt_of_not_le fun hh => ?_
      rw [nth_eq, List.getD_eq_getElem?_getD, List.getElem?_eq_none hh] at h1
      exact absurd h1 (by simp)
    refine ⟨⟨(get_T_iff cs hT (by lia)).mpr ⟨hlen, h1⟩, fun j hj e => ?_, isOp_get cs hT h2, fun e => ?_, fun e => ?_⟩, ?_⟩
    · obtain ⟨j1, j2⟩ := (get_T_iff cs hT (x := k + 3) (by lia)).mp e
      rcases hpre j hj with ⟨rfl, q⟩ | q
      · have := (isOp_iff.mp h2).2
        rw [hz q, j2] at this
        lia
      · exact hmin j j1 q j2
    · rw [turnC_eq cs hT f (by lia)] at e
      rw [e] at h3
      exact isOp_get cs hT h3
    · rw [turnC_eq cs hT f (by lia)] at e
      rw [e] at h3
      exact isOp_get cs hT h3
    · rw [turn_eq cs hT f (by lia), ← (eqR_iff _ _).mp h4]
end
end Mine
end
section
set_option Elab.async false
set_option linter.unusedVariables false
namespace Mine
/-! the plain law -/
theorem sort_ok : ∀ (l : List Nat) (a : Nat), sortR l a = true → (∀ x ∈ l, a ≤ x) ∧ l.Pairwise (· ≤ ·) := by
  intro l
  induction l with
  | nil => intro a _; exact ⟨fun x m => (nomatch m), .nil⟩
  | cons b l ih =>
    intro a h
    have h' : andR (Nat.ble a b) (sortR l b) = true := h
    rw [andR_eq, Bool.and_eq_true, Nat.ble_eq] at h'
    obtain ⟨h1, h2⟩ := ih b h'.2
    refine ⟨fun x m => ?_, .cons h1 h2⟩
    rcases memc m with rfl | m
    · exact h'.1
    · exact Nat.le_trans h'.1 (h1 x m)
theorem one_ok {l : List (List Nat)} {m : List Nat} (h : oneR l m = true) : ∃ w, l = [w] ∧ w.map (· + 2) = m := by
  match l, h with
  | [w], h =>
    have h' : eqR (mapR (fun x => Nat.succ (Nat.succ x)) w) m = true := h
    rw [mapR_eq, eqR_iff] at h'
    exact ⟨w, rfl, h'⟩
theorem allTree_ok {p T : List Nat} : ∀ l : List (List Nat), allTreeR p T l = true → ∀ w ∈ l, treeR p 6 w = T := by
  intro l
  induction l with
  | nil => intro _ w m; cases m
  | cons a l ih =>
    intro h w m
    have h' : andR (wordR a) (andR (eqR (treeR p 6 a) T) (allTreeR p T l)) = true := h
    rw [andR_eq, andR_eq, Bool.and_eq_true, Bool.and_eq_true, eqR_iff] at h'
    rcases memc m with rfl | m
    · exact h'.2.1
    · exact ih h'.2.2 w m
theorem inv_id (r : Nat → Int) : Inv r [0, 1, 2, 3, 4, 5] :=
  by
  refine ⟨by decide, ?_⟩
  have h : ([0, 1, 2, 3, 4, 5] : List Nat).Pairwise (· < ·) := by decide
  exact List.Pairwise.imp (S := fun a b => r a = r b → a < b) (fun {a b} x _ => x) h
theorem nameW_eq (cs w : List Nat) : nameW cs w = (w.map (· + 2)).map (uOf cs) := by
  unfold nameW
  rw [List.map_map]; rfl
theorem plainLaw : PlainLaw := by
  intro cs hcs hb
  have S := pOf_std (rkOf cs)
  have O := law_osgn hcs
  have hI := inv_id (rkOf cs)
  have hc := pOf_chk (rkOf cs)
  unfold chkR at hc
  rw [forceL_eq, forceL_eq] at hc
  generalize pOf (rkOf cs) = p at *
  have eT : treeR p 6 [0, 1, 2, 3, 4, 5] = treeS cs := treeR_eq S 6 _ hI
  rw [eT] at hc
  have hT : ∀ t ∈ treeS cs, t < 8 := tree_lt _ 6 _ (by decide)
  have h0 : (treeS cs).head? = some 0 := rfl
  have hU : treeU cs = (treeS cs).map (uOf cs) := rfl
  generalize hTT : treeS cs = T at *
  simp only [andR_eq, Bool.and_eq_true, Nat.beq_eq, lenR_eq] at hc
  obtain ⟨hl, hM, hbal, hok, t0, t1, t2, t3, t4, hrun⟩ := hc
  generalize hMM : matesR T = M at *
  obtain ⟨N, _, hN, hname, hend, hB, hfin⟩ := runR_ok S O (finR p T M) 24 0 ⟨.inr ⟨hI, rfl⟩, fun x m => by obtain rfl := List.mem_singleton.mp m; exact ⟨hI, rfl⟩, fun x m => (nomatch m)⟩ hrun
  unfold finR at hfin
  simp only [andR_eq, Bool.and_eq_true, Nat.beq_eq] at hfin
  obtain ⟨hw, hs, hlo, hhi, hall⟩ := hfin
  obtain ⟨w1, e1, m1⟩ := one_ok hlo
  obtain ⟨w2, e2, m2⟩ := one_ok hhi
  have hne : T ≠ [] := fun e => by rw [e] at hl; cases hl
  have hturn : ∀ kk, kk < 5 → turnOkR p T M kk = true := fun kk hk => by
    match kk, hk with
    | 0, _ => exact t0
    | 1, _ => exact t1
    | 2, _ => exact t2
    | 3, _ => exact t3
    | 4, _ => exact t4
  have hways : waysR M 7 0 18 * N = 720 := hw
  have hw720 : waysR M 7 0 18 ≤ 720 := by
    have : 1 ≤ N := Nat.pos_of_ne_zero fun e => by rw [e] at hways; cases hways
    exact Nat.le_trans (Nat.le_mul_of_pos_right _ this) (Nat.le_of_eq hways)
  refine ⟨N, nth M, fun kk => Nat.pred (idxR (kk + 3) T), waysR M 7 0 18, sizeR M 7 0 18, (lowR T M 7 0 18).map (uOf cs), (highR T M 7 0 18).map (uOf cs), w1, w2, ?_⟩
  have hUl : (treeU cs).length = 18 := by rw [hU, List.length_map]; exact hl
  constructor
  case hord => exact law_hord hcs
  case htok => exact law_htok cs
  case hlast => exact law_hlast cs
  case hasc => exact law_hasc cs
  case hun => rw [hU]; exact hun_T cs hT
  case hc1 => rw [hU]; exact hc1_T cs hT hbal hne
  case hc2 => rw [hU]; exact hc2_T cs hT hbal h0
  case hN => lia
  case hname => exact fun j hj => hname j (Nat.zero_le _) hj
  case hend => exact hend
  case hm => rw [hU]; subst hMM; exact hm_T T cs hT hl hM
  case hok => rw [hUl, hU]; exact okRead_T T M cs 7 0 18 hok hw720
  case hrd => rw [hUl, hU]; exact read_eq T M cs 7 0 18 hok
  case hways => exact hways
  case hcame => exact (sort_ok _ 0 hs).2
  case hlow => exact e1
  case hlowR => rw [nameW_eq, m1]
  case hhigh => exact e2
  case hhighR => rw [nameW_eq, m2]
  case hseen =>
    intro wd hwd
    have hWI := hB.2.1 wd hwd
    refine ⟨hWI.ok, ?_⟩
    rw [hTT]
    exact (treeR_eq S 6 wd hWI.1).symm.trans (allTree_ok _ hall wd hwd)
  case hfree =>
    intro kk hk hr hf
    rw [hTT]
    exact (turn_T cs hT S O hI hk hr (hturn kk hk)).1 hf
  case hturn =>
    intro kk hk hr hf
    rw [hU]
    exact (turn_T cs hT S O hI hk hr (hturn kk hk)).2 hf
end Mine
end
theorem PySem.Challenge.cw_xb0011_01_holds : PySem.Challenge.rw_xb0011_01.Holds := by
  exact Mine.reduce (Mine.walk_of Mine.plainLaw)
