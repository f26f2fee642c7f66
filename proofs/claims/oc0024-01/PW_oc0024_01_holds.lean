import PyProof.Rows.All
import Wide.All
import OpenK.AllK
import Wide.FinOn
import PySem.Challenge.RW_oc0024_01
set_option Elab.async false

/-! part Top -/
section
open PySem PySem.W PyProof.Rows
set_option Elab.async false
set_option maxRecDepth 100000
set_option maxHeartbeats 8000000
open_top hd for PySem.Challenge.rw_oc0024_01
end

/-! part Base -/
section
open PySem PySem.W PySem.Calls PyProof.Rows
set_option maxRecDepth 100000
namespace Mine

abbrev ar (dp un : Nat) (gd : Option (List Code)) (fr : Option (List Env)) : Around := { handled := none, depth := dp, frames := fr, guards := gd, units := un }

/-! flat shells: one step opens them -/
inductive X3 {α β γ : Type} (p : α → β → γ → Prop) : Prop
  | mk (x0 : α) (x1 : β) (x2 : γ) (h : p x0 x1 x2) : X3 p
inductive X4 {α β γ δ : Type} (p : α → β → γ → δ → Prop) : Prop
  | mk (x0 : α) (x1 : β) (x2 : γ) (x3 : δ) (h : p x0 x1 x2 x3) : X4 p
inductive X5 {α β γ δ ε : Type} (p : α → β → γ → δ → ε → Prop) : Prop
  | mk (x0 : α) (x1 : β) (x2 : γ) (x3 : δ) (x4 : ε) (h : p x0 x1 x2 x3 x4) : X5 p
inductive X6 {α β γ δ ε ζ : Type} (p : α → β → γ → δ → ε → ζ → Prop) : Prop
  | mk (x0 : α) (x1 : β) (x2 : γ) (x3 : δ) (x4 : ε) (x5 : ζ) (h : p x0 x1 x2 x3 x4 x5) : X6 p
inductive X7 {α β γ δ ε ζ η : Type} (p : α → β → γ → δ → ε → ζ → η → Prop) : Prop
  | mk (x0 : α) (x1 : β) (x2 : γ) (x3 : δ) (x4 : ε) (x5 : ζ) (x6 : η) (h : p x0 x1 x2 x3 x4 x5 x6) : X7 p
inductive X8 {α β γ δ ε ζ η θ : Type} (p : α → β → γ → δ → ε → ζ → η → θ → Prop) : Prop
  | mk (x0 : α) (x1 : β) (x2 : γ) (x3 : δ) (x4 : ε) (x5 : ζ) (x6 : η) (x7 : θ) (h : p x0 x1 x2 x3 x4 x5 x6 x7) : X8 p
inductive X9 {α β γ δ ε ζ η θ ι : Type} (p : α → β → γ → δ → ε → ζ → η → θ → ι → Prop) : Prop
  | mk (x0 : α) (x1 : β) (x2 : γ) (x3 : δ) (x4 : ε) (x5 : ζ) (x6 : η) (x7 : θ) (x8 : ι) (h : p x0 x1 x2 x3 x4 x5 x6 x7 x8) : X9 p
inductive X10 {α β γ δ ε ζ η θ ι κ : Type} (p : α → β → γ → δ → ε → ζ → η → θ → ι → κ → Prop) : Prop
  | mk (x0 : α) (x1 : β) (x2 : γ) (x3 : δ) (x4 : ε) (x5 : ζ) (x6 : η) (x7 : θ) (x8 : ι) (x9 : κ) (h : p x0 x1 x2 x3 x4 x5 x6 x7 x8 x9) : X10 p
inductive X11 {α β γ δ ε ζ η θ ι κ ν : Type} (p : α → β → γ → δ → ε → ζ → η → θ → ι → κ → ν → Prop) : Prop
  | mk (x0 : α) (x1 : β) (x2 : γ) (x3 : δ) (x4 : ε) (x5 : ζ) (x6 : η) (x7 : θ) (x8 : ι) (x9 : κ) (x10 : ν) (h : p x0 x1 x2 x3 x4 x5 x6 x7 x8 x9 x10) : X11 p
inductive X12 {α β γ δ ε ζ η θ ι κ ν ξ : Type} (p : α → β → γ → δ → ε → ζ → η → θ → ι → κ → ν → ξ → Prop) : Prop
  | mk (x0 : α) (x1 : β) (x2 : γ) (x3 : δ) (x4 : ε) (x5 : ζ) (x6 : η) (x7 : θ) (x8 : ι) (x9 : κ) (x10 : ν) (x11 : ξ) (h : p x0 x1 x2 x3 x4 x5 x6 x7 x8 x9 x10 x11) : X12 p
inductive A2 (p0 p1 : Prop) : Prop
  | mk (h0 : p0) (h1 : p1) : A2 p0 p1
inductive A4 (p0 p1 p2 p3 : Prop) : Prop
  | mk (h0 : p0) (h1 : p1) (h2 : p2) (h3 : p3) : A4 p0 p1 p2 p3
inductive A5 (p0 p1 p2 p3 p4 : Prop) : Prop
  | mk (h0 : p0) (h1 : p1) (h2 : p2) (h3 : p3) (h4 : p4) : A5 p0 p1 p2 p3 p4
inductive A8 (p0 p1 p2 p3 p4 p5 p6 p7 : Prop) : Prop
  | mk (h0 : p0) (h1 : p1) (h2 : p2) (h3 : p3) (h4 : p4) (h5 : p5) (h6 : p6) (h7 : p7) : A8 p0 p1 p2 p3 p4 p5 p6 p7
inductive A9 (p0 p1 p2 p3 p4 p5 p6 p7 p8 : Prop) : Prop
  | mk (h0 : p0) (h1 : p1) (h2 : p2) (h3 : p3) (h4 : p4) (h5 : p5) (h6 : p6) (h7 : p7) (h8 : p8) : A9 p0 p1 p2 p3 p4 p5 p6 p7 p8
inductive A10 (p0 p1 p2 p3 p4 p5 p6 p7 p8 p9 : Prop) : Prop
  | mk (h0 : p0) (h1 : p1) (h2 : p2) (h3 : p3) (h4 : p4) (h5 : p5) (h6 : p6) (h7 : p7) (h8 : p8) (h9 : p9) : A10 p0 p1 p2 p3 p4 p5 p6 p7 p8 p9
inductive A11 (p0 p1 p2 p3 p4 p5 p6 p7 p8 p9 p10 : Prop) : Prop
  | mk (h0 : p0) (h1 : p1) (h2 : p2) (h3 : p3) (h4 : p4) (h5 : p5) (h6 : p6) (h7 : p7) (h8 : p8) (h9 : p9) (h10 : p10) : A11 p0 p1 p2 p3 p4 p5 p6 p7 p8 p9 p10
inductive A12 (p0 p1 p2 p3 p4 p5 p6 p7 p8 p9 p10 p11 : Prop) : Prop
  | mk (h0 : p0) (h1 : p1) (h2 : p2) (h3 : p3) (h4 : p4) (h5 : p5) (h6 : p6) (h7 : p7) (h8 : p8) (h9 : p9) (h10 : p10) (h11 : p11) : A12 p0 p1 p2 p3 p4 p5 p6 p7 p8 p9 p10 p11
inductive A13 (p0 p1 p2 p3 p4 p5 p6 p7 p8 p9 p10 p11 p12 : Prop) : Prop
  | mk (h0 : p0) (h1 : p1) (h2 : p2) (h3 : p3) (h4 : p4) (h5 : p5) (h6 : p6) (h7 : p7) (h8 : p8) (h9 : p9) (h10 : p10) (h11 : p11) (h12 : p12) : A13 p0 p1 p2 p3 p4 p5 p6 p7 p8 p9 p10 p11 p12
inductive A14 (p0 p1 p2 p3 p4 p5 p6 p7 p8 p9 p10 p11 p12 p13 : Prop) : Prop
  | mk (h0 : p0) (h1 : p1) (h2 : p2) (h3 : p3) (h4 : p4) (h5 : p5) (h6 : p6) (h7 : p7) (h8 : p8) (h9 : p9) (h10 : p10) (h11 : p11) (h12 : p12) (h13 : p13) : A14 p0 p1 p2 p3 p4 p5 p6 p7 p8 p9 p10 p11 p12 p13
inductive A15 (p0 p1 p2 p3 p4 p5 p6 p7 p8 p9 p10 p11 p12 p13 p14 : Prop) : Prop
  | mk (h0 : p0) (h1 : p1) (h2 : p2) (h3 : p3) (h4 : p4) (h5 : p5) (h6 : p6) (h7 : p7) (h8 : p8) (h9 : p9) (h10 : p10) (h11 : p11) (h12 : p12) (h13 : p13) (h14 : p14) : A15 p0 p1 p2 p3 p4 p5 p6 p7 p8 p9 p10 p11 p12 p13 p14
inductive A16 (p0 p1 p2 p3 p4 p5 p6 p7 p8 p9 p10 p11 p12 p13 p14 p15 : Prop) : Prop
  | mk (h0 : p0) (h1 : p1) (h2 : p2) (h3 : p3) (h4 : p4) (h5 : p5) (h6 : p6) (h7 : p7) (h8 : p8) (h9 : p9) (h10 : p10) (h11 : p11) (h12 : p12) (h13 : p13) (h14 : p14) (h15 : p15) : A16 p0 p1 p2 p3 p4 p5 p6 p7 p8 p9 p10 p11 p12 p13 p14 p15
inductive A17 (p0 p1 p2 p3 p4 p5 p6 p7 p8 p9 p10 p11 p12 p13 p14 p15 p16 : Prop) : Prop
  | mk (h0 : p0) (h1 : p1) (h2 : p2) (h3 : p3) (h4 : p4) (h5 : p5) (h6 : p6) (h7 : p7) (h8 : p8) (h9 : p9) (h10 : p10) (h11 : p11) (h12 : p12) (h13 : p13) (h14 : p14) (h15 : p15) (h16 : p16) : A17 p0 p1 p2 p3 p4 p5 p6 p7 p8 p9 p10 p11 p12 p13 p14 p15 p16

/-- what stood outside the footprint stands -/
noncomputable def Ev (fp : List (Addr × Obj)) (h h' : Heap) : Prop := ∀ b o, h.get? b = some o → b ∉ fp.map (·.1) → h'.get? b = some o
/-- what is in the hand afterwards: the footprint's, or new -/
noncomputable def Nw (fp : List (Addr × Obj)) (h h' : Heap) (fp' : List (Addr × Obj)) : Prop := ∀ p ∈ fp', h'.get? p.1 = some p.2 ∧ (p.1 ∈ fp.map (·.1) ∨ h.get? p.1 = none)

theorem fr_ev {h₀ h h' : Heap} {L : Addr} {m : Str → Option Value} {fp : List (Addr × Obj)} (F : Fr h₀ L h m) (N : News h₀ L h fp) (e : Ev fp h h') : Fr h₀ L h' m := by
  obtain ⟨oL, es, ep, hL, r⟩ := F.ns
  refine ⟨⟨oL, es, ep, e _ _ hL fun q => ?_, r⟩, fun b o q => e b o (F.keep b o q) fun z => ?_, F.above⟩
  · obtain ⟨p, hp, e1⟩ := List.mem_map.mp q
    exact (N p hp).2.1 e1
  · obtain ⟨p, hp, rfl⟩ := List.mem_map.mp z
    rw [(N p hp).2.2] at q; cases q

theorem news_ev {h₀ h h' : Heap} {L : Addr} {m : Str → Option Value} {fp fp' rest : List (Addr × Obj)} (F : Fr h₀ L h m) (N : News h₀ L h fp) (Nr : News h₀ L h rest)
    (hd : ∀ p ∈ rest, p.1 ∉ fp.map (·.1)) (e : Ev fp h h') (n : Nw fp h h' fp') : News h₀ L h' (fp' ++ rest) := by
  intro p hp
  rcases List.mem_append.mp hp with hp | hp
  · obtain ⟨h1, h2⟩ := n p hp
    refine ⟨h1, ?_, ?_⟩
    · rcases h2 with h2 | h2
      · obtain ⟨q, hq, e1⟩ := List.mem_map.mp h2
        rw [← e1]; exact (N q hq).2.1
      · intro q
        obtain ⟨oL, es, ep, hL, r⟩ := F.ns
        rw [q, hL] at h2; cases h2
    · rcases h2 with h2 | h2
      · obtain ⟨q, hq, e1⟩ := List.mem_map.mp h2
        rw [← e1]; exact (N q hq).2.2
      · cases q : h₀.get? p.1 with
        | none => rfl
        | some o => rw [F.keep _ _ q] at h2; cases h2
  · have P := Nr p hp
    exact ⟨e _ _ P.1 (hd p hp), P.2⟩

theorem ev_of {g h h'' : Heap} {L' : Addr} {m' : Str → Option Value} {fp : List (Addr × Obj)} (hg1 : ∀ b o, h.get? b = some o → b ∉ fp.map (·.1) → g.get? b = some o) (F : Fr g L' h'' m') : Ev fp h h'' :=
  fun b o e q => F.keep b o (hg1 b o e q)
theorem nw_of {g h h'' : Heap} {L' : Addr} {fp fp' : List (Addr × Obj)} (hg1 : ∀ b o, h.get? b = some o → b ∉ fp.map (·.1) → g.get? b = some o) (N : News g L' h'' fp') : Nw fp h h'' fp' := by
  intro p hp
  have P := N p hp
  refine ⟨P.1, ?_⟩
  cases q : h.get? p.1 with
  | none => exact .inr rfl
  | some o =>
    refine .inl (Classical.byContradiction fun z => ?_)
    have := hg1 _ _ q z
    rw [P.2.2] at this; cases this

theorem enterM {prog : Program} {w : World} {A : Around} {s : Shared} {h₀ : Heap} {L : Addr} {m : Str → Option Value} {fp : List (Addr × Obj)} {K : Frag} {p : Program} {loose : List Str} {mean : ExcName → Option Value} {mg mb : Str → Option Value}
    {Q E : Value → Shared → Prop} {name qual : Str} {params : Arguments} {body : List Stmt} {scope : Scope} {dV kV doc pm cdv ct oc : Value} {an od : Option Addr} {osl : Array (Option Value)} {f : Addr} {vs : List Value} {binds : List (Str × Value)}
    (F : Fr h₀ L s.heap m) (X₀ : K.In h₀) (N : News h₀ L s.heap fp) (T : Top p loose mean mg mb h₀)
    (ho : K.lookup f = some ⟨oc, od, .func (fnOf name qual params body scope dV kV doc pm an cdv ct), osl⟩) (hcd : codeIn K cdv qual = true) (hroom : A.depth < recursionLimit)
    (hbind : BindsTo s (fnOf name qual params body scope dV kV doc pm an cdv ct) ⟨vs, []⟩ binds) (hloc : ∀ y ∈ binds, scope.names.lookup y.1 = some .local)
    (h : ∀ g L' h₁, (∀ b o, s.heap.get? b = some o → b ∉ fp.map (·.1) → g.get? b = some o) → (∀ b o, g.get? b = some o → s.heap.get? b = some o) → Fr g L' h₁ (fun y => binds.reverse.lookup y) → News g L' h₁ fp → K.In g → Top p loose mean mg mb g →
      wpAny (model prog w) (A.deeper (envOf qual scope L' f cdv)) (execs body (envOf qual scope L' f cdv))
        (fun fl s' => Q (match fl with | .ret v => v | _ => .none) s') (fun _ _ => False)
        { s with heap := h₁, toks := s.toks + binds.length })
    (hco : scope.isCoroutine = false) (hgen : scope.isGenerator = false) (hk : scope.kind = .function)
    (hcell : ∀ x ∈ scope.names, x.2 ≠ .cell) : wpAny (model prog w) A (call (.ref f) vs) Q E s := by
  have nm : ∀ b o, h₀.get? b = some o → b ∉ fp.map (·.1) := fun b o e q => by
    obtain ⟨p, hp, rfl⟩ := List.mem_map.mp q
    rw [(N p hp).2.2] at e; cases e
  have st : h₀.StaysIn (hideAll s.heap (fp.map (·.1))) := fun b o e => hideAll_get _ (F.keep b o e) (nm b o e)
  refine wpAny_call ?_
  refine codeAny_call_def (fd := fnOf name qual params body scope dV kV doc pm an cdv ct) (body := body) (binds := binds) hroom ((X₀.keeps F.keep) _ _ ho) rfl (T.nolimit.keeps F.keep) (codeRec_of (X₀.keeps F.keep) hcd) rfl hbind hcell hloc (fun h₁ hns hk₁ => ?_) hco hgen hk
  refine wpAny_mono (h (hideAll s.heap (fp.map (fun (x : Addr × Obj) => x.1))) s.heap.objs.size h₁ (fun b o e q => hideAll_get _ e q) (fun b o e => of_hideAll _ e) ⟨hns, fun b o e => hk₁ b o (of_hideAll _ e), Nat.le_of_eq (hideAll_size _ _)⟩
    (fun p hp => ⟨hk₁ _ _ (N p hp).1, Nat.ne_of_lt (Heap.lt_size (N p hp).1), hideAll_none _ (List.mem_map_of_mem hp)⟩) (X₀.keeps st) (T.keeps st)) (fun fl s' hl => ?_) fun _ _ y => y.elim
  cases fl <;> exact hl
/-! small facts of numbers, each once -/
theorem dn20 {i n : Nat} (h : i < n) (hn : n ≤ 20) : 20 - (i + 1) < 20 - i := Nat.sub_lt_sub_left (Nat.lt_of_lt_of_le h hn) (Nat.lt_succ_self i)
theorem z1000 {n : Nat} (h : n ≤ 20) : (n : Int) ≤ 1000 := Int.ofNat_le.mpr (Nat.le_trans h (by decide))
theorem z63 {i n : Nat} (h : i < n) (hn : n ≤ 20) : (i : Int) < 2 ^ 63 := by omega
theorem z63' {i : Nat} (h : i ≤ 10000) : (i : Int) < 2 ^ 63 := by omega
theorem z63o : (0 : Int) < 2 ^ 63 := by omega
theorem zpos {i n : Nat} (h : i < n) : 0 < (n : Int) - (i : Int) := Int.sub_pos_of_lt (Int.ofNat_lt.mpr h)
theorem zneg {i n : Nat} (h : ¬ i < n) : (n : Int) - (i : Int) ≤ 0 := Int.sub_nonpos_of_le (Int.ofNat_le.mpr (Nat.le_of_not_lt h))
theorem ieq {i n : Nat} (a : i ≤ n) (b : ¬ i < n) : i = n := Nat.le_antisymm a (Nat.le_of_not_lt b)
theorem up {a b c k : Nat} (h : a ≤ b) (d : b + k ≤ c) : a + k ≤ c := Nat.le_trans (Nat.add_le_add_right h k) d
theorem zz (i : Nat) : 0 ≤ (i : Int) := Int.natCast_nonneg i

/-- a word for what is to come, hidden in what goes before -/
theorem midQ {α : Type} {M : Model} {A : Around} {c : Sem α} {Q' : α → Shared → Prop} {E : Value → Shared → Prop} {s : Shared} (Q : α → Shared → Prop)
    (h : ∀ P : α → Shared → Prop, (∀ v s', Q v s' → P v s') → wpAny M A c P E s) (r : ∀ v s', Q v s' → Q' v s') : wpAny M A c Q' E s :=
  wpAny_mono (h Q fun _ _ x => x) r fun _ _ x => x
end Mine
end

/-! part H1 -/
section
open PySem PySem.W PySem.Calls PyProof.Rows
set_option maxRecDepth 100000
set_option maxHeartbeats 1000000
namespace Mine

/-! the frame's map, some names told -/
noncomputable def bnd (l : List (Str × Value)) (m : Str → Option Value) : Str → Option Value := fun y => match l.lookup y with | some v => some v | none => m y
theorem bnd_self {m : Str → Option Value} : ∀ {l : List (Str × Value)}, (∀ p ∈ l, m p.1 = some p.2) → bnd l m = m
  | [], _ => by funext y; rfl
  | p :: r, h => by
    funext y
    unfold bnd
    rw [List.lookup_cons]
    by_cases e : (y == p.1) = true
    · rw [e]; dsimp only; rw [beq_iff_eq.mp e]; exact (h p (.head _)).symm
    · rw [Bool.not_eq_true] at e
      rw [e]; dsimp only
      exact congrFun (bnd_self (l := r) fun q hq => h q (.tail _ hq)) y
theorem fr_bnd {g h : Heap} {L : Addr} {m : Str → Option Value} (F : Fr g L h m) (l : List (Str × Value)) (hl : ∀ p ∈ l, m p.1 = some p.2) : Fr g L h (bnd l m) := by rw [bnd_self hl]; exact F

theorem bd0 {m : Str → Option Value} : ∀ p ∈ ([] : List (Str × Value)), m p.1 = some p.2 := fun _ h => nomatch h
theorem bd {m : Str → Option Value} {k : Str} {v : Value} {l : List (Str × Value)} (q : m k = some v) (r : ∀ p ∈ l, m p.1 = some p.2) : ∀ p ∈ (k, v) :: l, m p.1 = some p.2 :=
  List.forall_mem_cons.mpr ⟨q, r⟩

/-- a shell that the walk does not open -/
noncomputable def Box (P : Prop) : Prop := P
theorem Box.mk {P : Prop} (h : P) : Box P := h
theorem Box.out {P : Prop} (h : Box P) : P := h

/-! a while -/
noncomputable def WhP (I : Nat → Shared → Prop) (n : Nat) (Q : Flow → Shared → Prop) : Flow → Shared → Prop
  | .next, s => ∃ k, k < n ∧ I k s
  | .cont, s => ∃ k, k < n ∧ I k s
  | .brk, s => Q .next s
  | .ret v, s => Q (.ret v) s
theorem whileM {prog : Program} {w : World} {A : Around} {env : Env} {s : Shared} {test : Expr} {body : List Stmt} {pos : Pos} {Q : Flow → Shared → Prop} (I : Nat → Shared → Prop) (n₀ : Nat) (h0 : I n₀ s)
    (turn : ∀ n (P : Flow → Shared → Prop), (∀ fl s', WhP I n Q fl s' → P fl s') → ∀ s', I n s' → wpAny (model prog w) A (isTrue test env (eval test env)) (fun b s₂ => if b = true then wpAny (model prog w) A (execs body env) P (fun _ _ => False) s₂ else P .brk s₂) (fun _ _ => False) s') :
    wpAny (model prog w) A (exec (.While test body [] pos) env) Q (fun _ _ => False) s := by
  refine wpAny_While (codeAny_whileLoop I ?_ n₀ h0)
  intro n s' hI
  refine wpAny_mono (turn n _ (fun _ _ x => x) s' hI) (fun b s₂ h₂ => ?_) fun _ _ x => x.elim
  cases b with
  | false =>
    simp only [Bool.false_eq_true, if_false] at h₂ ⊢
    exact wpAny_execs_nil h₂
  | true =>
    simp only [if_true] at h₂ ⊢
    refine wpAny_mono h₂ (fun f s₃ h₃ => ?_) fun _ _ x => x.elim
    cases f <;> exact h₃

/-! pairs of ints -/
noncomputable def pairObj (x : Int × Int) (t u : Tok) (n : Nat) : Obj := { cls := .type "tuple", data := .seq #[.int x.1 t, .int x.2 u] n }
noncomputable def PairAt (h : Heap) (v : Value) (x : Int × Int) : Prop := ∃ a t u n, v = .ref a ∧ h.get? a = some (pairObj x t u n)
inductive PairsAt (h : Heap) : List Value → List (Int × Int) → Prop
  | nil : PairsAt h [] []
  | cons {v : Value} {x : Int × Int} {vs : List Value} {xs : List (Int × Int)} : PairAt h v x → PairsAt h vs xs → PairsAt h (v :: vs) (x :: xs)
theorem PairAt.keeps {h h' : Heap} (k : ∀ b o, h.get? b = some o → h'.get? b = some o) {v : Value} {x : Int × Int} (p : PairAt h v x) : PairAt h' v x :=
  let ⟨a, t, u, n, e, q⟩ := p; ⟨a, t, u, n, e, k _ _ q⟩
theorem PairsAt.keeps {h h' : Heap} (k : ∀ b o, h.get? b = some o → h'.get? b = some o) {vs : List Value} {xs : List (Int × Int)} (p : PairsAt h vs xs) : PairsAt h' vs xs := by
  induction p with
  | nil => exact .nil
  | cons h1 _ ih => exact .cons (h1.keeps k) ih
theorem PairsAt.length {h : Heap} {vs : List Value} {xs : List (Int × Int)} (p : PairsAt h vs xs) : vs.length = xs.length := by
  induction p with
  | nil => rfl
  | cons _ _ ih => rw [List.length_cons, List.length_cons, ih]
theorem PairsAt.get {h : Heap} {vs : List Value} {xs : List (Int × Int)} (p : PairsAt h vs xs) {i : Nat} (hi : i < xs.length) : ∃ v, vs[i]? = some v ∧ PairAt h v (xs.getD i (0, 0)) := by
  induction p generalizing i with
  | nil => exact absurd hi (Nat.not_lt_zero _)
  | @cons v x vs xs h1 _ ih =>
    cases i with
    | zero => exact ⟨v, rfl, h1⟩
    | succ i => exact ih (Nat.lt_of_succ_lt_succ hi)
theorem PairsAt.at {h : Heap} {vs : List Value} {xs : List (Int × Int)} (p : PairsAt h vs xs) {i : Nat} {v : Value} (hi : vs[i]? = some v) : PairAt h v (xs.getD i (0, 0)) := by
  have hl : i < vs.length := (List.getElem?_eq_some_iff.mp hi).1
  obtain ⟨v', h1, h2⟩ := p.get (i := i) (by rw [← p.length]; exact hl)
  rw [hi] at h1
  rw [Option.some.inj h1]; exact h2
theorem PairsAt.set {h : Heap} {vs : List Value} {xs : List (Int × Int)} (p : PairsAt h vs xs) {v : Value} {x : Int × Int} (q : PairAt h v x) (i : Nat) : PairsAt h (vs.set i v) (xs.set i x) := by
  induction p generalizing i with
  | nil => exact .nil
  | cons h1 h2 ih =>
    cases i with
    | zero => exact .cons q h2
    | succ i => exact .cons h1 (ih i)
theorem PairsAt.append {h : Heap} {vs ws : List Value} {xs ys : List (Int × Int)} (p : PairsAt h vs xs) (q : PairsAt h ws ys) : PairsAt h (vs ++ ws) (xs ++ ys) := by
  induction p with
  | nil => exact q
  | cons h1 _ ih => exact .cons h1 ih

noncomputable def plt (x y : Int × Int) : Bool := if x.1 = y.1 then decide (x.2 < y.2) else decide (x.1 < y.1)

section
variable {prog : Program} {w : World} {A : Around} {E : Value → Shared → Prop} {s : Shared}
theorem lt_pair {a b : Addr} {x y : Int × Int} {t u t' u' : Tok} {n n' : Nat} {Q : Value → Shared → Prop} (ha : s.heap.get? a = some (pairObj x t u n)) (hb : s.heap.get? b = some (pairObj y t' u' n')) (hu : A.units < cLine) (h : Q (.bool (plt x y)) s) :
    wpAny (model prog w) A (compareOp .Lt (.ref a) (.ref b)) Q E s := by
  have hTa : s.TypeIs (.ref a) "tuple" := ⟨_, ha, rfl⟩
  have hTb : s.TypeIs (.ref b) "tuple" := ⟨_, hb, rfl⟩
  refine cmp_ofLt (wpAny_richCompare_same_room (op := .Lt) hTa hTb F.slot_tuple_lt ?_ hu)
  refine wpAny_call_entry F.slot_tuple_lt hTa F.entry_tuple_lt ?_ (F.args_tuple_lt_2 _ _)
  show wpAny _ _ (isInstance (.ref b) (.type "tuple") >>= _) _ _ s
  refine wpAny_bind (wpAny_isInstance hTb isSubtype_tuple_tuple ?_)
  simp only [Bool.not_true, Bool.false_eq_true, if_false]
  refine wpAny_bind (wpAny_tupleItemsOf ha rfl ?_)
  refine wpAny_bind (wpAny_tupleItemsOf hb rfl ?_)
  simp only [List.zip_cons_cons, List.zip_nil_right, List.forIn_cons, List.forIn_nil]
  refine wpAny_bind (wpAny_bind (wpAny_bind (wpAny_eqBool_int ?_)))
  unfold plt at h
  by_cases e1 : x.1 = y.1
  · simp only [e1, beq_self_eq_true, Bool.not_true, Bool.false_eq_true, if_false, if_true] at h ⊢
    refine wpAny_pure ?_
    refine wpAny_bind (wpAny_bind (wpAny_eqBool_int ?_))
    by_cases e2 : x.2 = y.2
    · simp only [e2, beq_self_eq_true, Bool.not_true, Bool.false_eq_true, if_false]
      refine wpAny_pure (wpAny_pure ?_)
      rw [e2, show decide (y.2 < y.2) = false from decide_eq_false (Int.lt_irrefl _)] at h
      exact wpAny_pure ⟨_, rfl, fun q => Value.noConfusion q, h⟩
    · simp only [beq_eq_false_iff_ne.mpr e2, Bool.not_false, if_true]
      refine wpAny_bind (wpAny_rule (wpAny_bind (lt_int ?_)))
      exact wpAny_bind (wpAny_pure (wpAny_pure (wpAny_pure (wpAny_pure ⟨_, rfl, fun q => Value.noConfusion q, h⟩))))
  · simp only [beq_eq_false_iff_ne.mpr e1, Bool.not_false, if_true, if_neg e1] at h ⊢
    refine wpAny_bind (wpAny_rule (wpAny_bind (lt_int ?_)))
    exact wpAny_bind (wpAny_pure (wpAny_pure (wpAny_pure (wpAny_pure ⟨_, rfl, fun q => Value.noConfusion q, h⟩))))

/-! a list of the ledger: an item, a store -/
theorem item_led {h₀ : Heap} {L l : Addr} {news : List (Addr × Obj)} {vs : List Value} {n : Nat} {value slice : PySem.Expr} {k : Int} {u : Tok} {v : Value} {Q : Value → Shared → Prop}
    (N : News h₀ L s.heap news) (hm : (l, listOf vs.toArray n) ∈ news) (h0 : 0 ≤ k) (hhi : k < 2 ^ 63) (hx : vs[k.toNat]? = some v) (h : Q v s)
    (hs : subscripted slice false (.ref l) (.int k u) = operate [.ref l, .int k u] (getItem (.ref l) (.int k u)) := by with_unfolding_all rfl) :
    wpAny (model prog w) A (subscriptTail value slice (.ref l) (.int k u)) Q E s :=
  have hl : s.heap.IsList l vs.toArray := PySem.IsL.isList (n := n) (N _ hm).1
  tail_any hl.typeIs slot_list_getitem.lookup (wpAny_getItem_list hl h0 hhi (by simpa using hx) h) hs

theorem set_led {h₀ : Heap} {L D : Addr} {m : Str → Option Value} {pre post : List (Addr × Obj)} {vs : List Value} {n : Nat} {k : Int} {t : Tok} {v : Value} {Q : Unit → Shared → Prop}
    (F : Fr h₀ L s.heap m) (N : News h₀ L s.heap (pre ++ (D, listOf vs.toArray n) :: post)) (a : ∀ p ∈ pre, p.1 ≠ D) (b : ∀ p ∈ post, p.1 ≠ D) (h0 : 0 ≤ k) (h1 : k < vs.length) (hfit : k < 2 ^ 63)
    (h : ∀ h', Fr h₀ L h' m → News h₀ L h' (pre ++ (D, listOf (vs.set k.toNat v).toArray n) :: post) → Q () { s with heap := h' }) :
    wpAny (model prog w) A (setItem (.ref D) (.int k t) v) Q E s := by
  have z := N (D, listOf vs.toArray n) (List.mem_append.mpr (.inr (.head _)))
  refine ki_setAt z.1 h0 hfit (by rw [List.size_toArray]; exact h1) (h _ (F.change (Heap.SameBut.update ..) z.2.1 z.2.2) (ki_turn _ N a b ?_ ?_))
  · show vs.toArray.setIfInBounds k.toNat v = (vs.set k.toNat v).toArray
    apply Array.toList_inj.mp
    simp
  · simp
end
end Mine
end

open PySem PySem.W PySem.Calls PyProof.Rows Mine
local macro_rules | `(tactic| walk_at "M.w") => `(tactic| (first | (k_unfold; (try dsimp only)) | walk1 | (dsimp only; walk1) | fail "no step"))
local macro_rules | `(tactic| walk_at "M.p0") => `(tactic| ((fail_if_success (with_reducible show wpAny _ _ (exec (Stmt.While _ _ _ _) _) _ _ _)); (fail_if_success (with_reducible show wpAny _ _ (exec (Stmt.For _ _ _ _ _) _) _ _ _)); (fail_if_success (with_reducible show wpAny _ _ (call (Value.ref _) _) _ _ _)); (fail_if_success (with_reducible show Box _)); (fail_if_success (with_reducible show WhP _ _ _ _ _))))
local macro_rules | `(tactic| walk_at "M.p1") => `(tactic| ((fail_if_success (with_reducible show wpAny _ _ (subscriptTail _ _ (Value.ref _) _) _ _ _)); (fail_if_success (with_reducible show wpAny _ _ (setItem (Value.ref _) _ _) _ _ _)); (fail_if_success (with_reducible show wpAny _ _ (compareOp _ (Value.ref _) _) _ _ _)); (fail_if_success (with_reducible show wpAny _ _ (call (Value.builtin _) [Value.ref _]) _ _ _)); (fail_if_success (with_reducible show wpAny _ _ (call (Value.type _) _) _ _ _)); (fail_if_success (with_reducible show wpAny _ _ (pyIter _) _ _ _)); (fail_if_success (with_reducible show wpAny _ _ (pyNext _) _ _ _))))
local macro_rules | `(tactic| walk_at "M.p2") => `(tactic| ((fail_if_success (with_reducible show wpAny _ _ (exec (Stmt.If _ _ _ _) _) _ _ _))))
local macro_rules | `(tactic| walk_at "M.p3") => `(tactic| ((fail_if_success (with_reducible show wpAny _ _ (subscriptTail _ _ (Value.str _ _) _) _ _ _))))
local macro_rules | `(tactic| walk_at "M.p4") => `(tactic| ((fail_if_success (with_reducible show wpAny _ _ (call (Value.builtin "list.append") _) _ _ _)); (fail_if_success (with_reducible show wpAny _ _ (call (Value.builtin "str.join") _) _ _ _)); (fail_if_success (with_reducible show wpAny _ _ (newList _) _ _ _)); (fail_if_success (with_reducible show wpAny _ _ (newTuple _) _ _ _))))
local macro_rules | `(tactic| walk_at "M.p5") => `(tactic| ((fail_if_success (with_reducible show wpAny _ _ (binaryOp Operator.Pow _ _) _ _ _))))
local macro_rules | `(tactic| walk_at "M.p6") => `(tactic| ((fail_if_success (with_reducible show wpAny _ _ (binaryOp _ (Value.str _ _) _) _ _ _)); (fail_if_success (with_reducible show wpAny _ _ (eval (Expr.ListComp _ _ _ _) _) _ _ _))))
local macro_rules | `(tactic| walk_at "M.p7") => `(tactic| ((fail_if_success (with_reducible show wpAny _ _ (inplaceOp _ (Value.str _ _) _) _ _ _)); (fail_if_success (with_reducible show wpAny _ _ (inplaceOp _ (Value.ref _) _) _ _ _))))
local macro_rules | `(tactic| walk_at "M.p8") => `(tactic| ((fail_if_success (with_reducible show wpAny _ _ (binaryOp _ (Value.ref _) _) _ _ _))))
local macro_rules | `(tactic| walk_at "M.g0") => `(tactic| repeat' (walk_at "M.p0"; walk_at "M.p1"; walk_at "M.w"))
local macro_rules | `(tactic| walk_at "M.g1") => `(tactic| repeat' (walk_at "M.p0"; walk_at "M.p1"; walk_at "M.p2"; walk_at "M.w"))
local macro_rules | `(tactic| walk_at "M.g2") => `(tactic| repeat' (walk_at "M.p0"; walk_at "M.p1"; walk_at "M.p3"; walk_at "M.w"))
local macro_rules | `(tactic| walk_at "M.g3") => `(tactic| repeat' (walk_at "M.p0"; walk_at "M.p1"; walk_at "M.p3"; walk_at "M.p4"; walk_at "M.w"))
local macro_rules | `(tactic| walk_at "M.g4") => `(tactic| repeat' (walk_at "M.p0"; walk_at "M.p1"; walk_at "M.p2"; walk_at "M.p3"; walk_at "M.p4"; walk_at "M.w"))
local macro_rules | `(tactic| walk_at "M.g5") => `(tactic| repeat' (walk_at "M.p0"; walk_at "M.w"))
local macro_rules | `(tactic| walk_at "M.g6") => `(tactic| repeat' (walk_at "M.p0"; walk_at "M.p1"; walk_at "M.p3"; walk_at "M.p4"; walk_at "M.p5"; walk_at "M.w"))
local macro_rules | `(tactic| walk_at "M.g7") => `(tactic| repeat' (walk_at "M.p0"; walk_at "M.p5"; walk_at "M.w"))
local macro_rules | `(tactic| walk_at "M.g8") => `(tactic| repeat' (walk_at "M.p0"; walk_at "M.p1"; walk_at "M.p3"; walk_at "M.p4"; walk_at "M.p5"; walk_at "M.p6"; walk_at "M.p7"; walk_at "M.p8"; walk_at "M.w"))
local macro_rules | `(tactic| walk_at "M.g9") => `(tactic| repeat' (walk_at "M.p0"; walk_at "M.p1"; walk_at "M.p3"; walk_at "M.p4"; walk_at "M.p5"; walk_at "M.p6"; walk_at "M.w"))
local macro_rules | `(tactic| walk_at "M.g10") => `(tactic| repeat' (walk_at "M.p0"; walk_at "M.p1"; walk_at "M.p3"; walk_at "M.p4"; walk_at "M.p5"; walk_at "M.p6"; walk_at "M.p7"; walk_at "M.w"))
local macro_rules | `(tactic| walk_at "M.enter") => `(tactic| ((case k2 => k_asm); (case k3 => k_asm); (case k4 => k_asm); (case k5 => k_asm); (case k6 => k_is); (case k7 => k_is); (case k8 => ktr_room); (case k9 => exact BindsTo.of_eq rfl); (case c5 => decide); (case kB => exact locs rfl); (case c2 => exact rfl); (case c3 => exact rfl); (case c4 => exact rfl)))
local macro_rules | `(tactic| walk_at "M.sub") => `(tactic| (first | exact List.nil_sublist _ | exact List.Sublist.refl _ | (refine List.Sublist.cons₂ _ ?_; walk_at "M.sub") | (refine List.Sublist.cons _ ?_; walk_at "M.sub")))

/-! part H2 -/
section
open PySem PySem.W PySem.Calls PyProof.Rows
set_option maxRecDepth 100000
set_option maxHeartbeats 1000000
namespace Mine

abbrev Nd (news : List (Addr × Obj)) : Prop := (news.map (fun (x : Addr × Obj) => x.1)).Nodup
theorem nd_push {h₀ h : Heap} {L : Addr} {news : List (Addr × Obj)} {o : Obj} (N : News h₀ L h news) (nd : Nd news) : Nd ((h.objs.size, o) :: news) := by
  refine List.nodup_cons.mpr ⟨fun q => ?_, nd⟩
  obtain ⟨p, hp, e⟩ := List.mem_map.mp q
  have := Heap.lt_size (N p hp).1
  rw [e] at this
  exact Nat.lt_irrefl _ this
theorem nd_pre {pre post : List (Addr × Obj)} {D : Addr} {o : Obj} (nd : Nd (pre ++ (D, o) :: post)) : ∀ p ∈ pre, p.1 ≠ D := by
  intro p hp e
  unfold Nd at nd
  rw [List.map_append, List.nodup_append] at nd
  exact nd.2.2 p.1 (List.mem_map.mpr ⟨p, hp, rfl⟩) D (by rw [List.map_cons]; exact .head _) e
theorem nd_post {pre post : List (Addr × Obj)} {D : Addr} {o : Obj} (nd : Nd (pre ++ (D, o) :: post)) : ∀ p ∈ post, p.1 ≠ D := by
  intro p hp e
  unfold Nd at nd
  rw [List.map_append, List.nodup_append] at nd
  have := nd.2.1
  rw [List.map_cons, List.nodup_cons] at this
  exact this.1 (List.mem_map.mpr ⟨p, hp, e⟩)
theorem nd_set {pre post : List (Addr × Obj)} {D : Addr} {o o' : Obj} (nd : Nd (pre ++ (D, o) :: post)) : Nd (pre ++ (D, o') :: post) := by
  unfold Nd at *
  rw [List.map_append, List.map_cons] at *
  exact nd
theorem nd_sub {l l' : List (Addr × Obj)} (nd : Nd l) (h : l'.Sublist l) : Nd l' := List.Nodup.sublist (h.map _) nd
theorem news_subS {h₀ h : Heap} {L : Addr} {l l' : List (Addr × Obj)} (N : News h₀ L h l) (hs : l'.Sublist l) : News h₀ L h l' := fun p hp => N p (hs.subset hp)
theorem news_sub {h₀ h : Heap} {L : Addr} {l l' : List (Addr × Obj)} (N : News h₀ L h l) (hs : ∀ p ∈ l', p ∈ l) : News h₀ L h l' := fun p hp => N p (hs p hp)

theorem back1 {h₀ h h' : Heap} {L : Addr} {m : Str → Option Value} {H : Addr} {o o' : Obj} {pre post : List (Addr × Obj)} (F : Fr h₀ L h m) (N : News h₀ L h (pre ++ (H, o) :: post)) (nd : Nd (pre ++ (H, o) :: post)) (e : Ev [(H, o)] h h') (g : h'.get? H = some o') :
    Fr h₀ L h' m ∧ News h₀ L h' (pre ++ (H, o') :: post) ∧ Nd (pre ++ (H, o') :: post) := by
  have N1 : News h₀ L h [(H, o)] := news_sub N fun p hp => by rw [List.mem_singleton.mp hp]; exact List.mem_append.mpr (.inr (.head _))
  refine ⟨fr_ev F N1 e, fun p hp => ?_, nd_set nd⟩
  have z := N1 _ (.head _)
  rcases List.mem_append.mp hp with q | q
  · have P := N p (List.mem_append.mpr (.inl q))
    exact ⟨e _ _ P.1 (by simpa using nd_pre nd p q), P.2⟩
  · rcases List.mem_cons.mp q with rfl | q
    · exact ⟨g, z.2⟩
    · have P := N p (List.mem_append.mpr (.inr (.tail _ q)))
      exact ⟨e _ _ P.1 (by simpa using nd_post nd p q), P.2⟩

section
variable {prog : Program} {w : World} {A : Around} {E : Value → Shared → Prop} {s : Shared} {env : Env} {h₀ : Heap} {L : Addr} {m : Str → Option Value} {news : List (Addr × Obj)}

/-! a for -/
noncomputable def ForP (prog : Program) (w : World) (A : Around) (env : Env) (target : Expr) (body : List Stmt) (P : Flow → Shared → Prop) : Option Value → Shared → Prop
  | none, s => P .brk s
  | some v, s => wpAny (model prog w) A (assign target env v) (fun _ s₂ => wpAny (model prog w) A (execs body env) P (fun _ _ => False) s₂) (fun _ _ => False) s
/-- the loop is at hand: an iterator, a word that holds between the turns -/
noncomputable def ForAt (prog : Program) (w : World) (A : Around) (env : Env) (target : Expr) (body : List Stmt) (Q : Flow → Shared → Prop) (it : Value) (s : Shared) : Prop :=
  ∃ (I : Nat → Shared → Prop) (n₀ : Nat), I n₀ s ∧ (∀ v, letOwnedTupleGo target it v = pure ()) ∧ ∀ n (P : Flow → Shared → Prop), (∀ fl s', WhP I n Q fl s' → P fl s') → ∀ s', I n s' → wpAny (model prog w) A (pyNext it) (ForP prog w A env target body P) (fun _ _ => False) s'
theorem forM {target iter : Expr} {body : List Stmt} {pos : Pos} {Q : Flow → Shared → Prop}
    (h : wpAny (model prog w) A (eval iter env) (fun x s₁ => wpAny (model prog w) A (pyIter x) (fun it s₂ => ForAt prog w A env target body Q it s₂) (fun _ _ => False) s₁) (fun _ _ => False) s)
    (hs : ∀ x, foldedSetIterable iter env x = pure x := by intro _; rfl) :
    wpAny (model prog w) A (exec (.For target iter body [] pos) env) Q (fun _ _ => False) s := by
  refine wpAny_For (wpAny_mono h (fun x s₁ h₁ => wpAny_mono h₁ (fun it s₂ h₂ => ?_) fun _ _ x => x) fun _ _ x => x) hs
  obtain ⟨I, n₀, h0, ht, turn⟩ := h₂
  refine codeAny_forLoop I ?_ n₀ h0 ht
  intro n s' hI
  refine wpAny_mono (turn n _ (fun _ _ x => x) s' hI) (fun r s₁ h₁ => ?_) fun _ _ x => x.elim
  cases r with
  | none => exact wpAny_execs_nil h₁
  | some v =>
    refine wpAny_mono h₁ (fun _ s₂ h₂ => wpAny_mono h₂ (fun f s₃ h₃ => ?_) fun _ _ x => x.elim) fun _ _ x => x.elim
    cases f <;> exact h₃

/-! ranges -/
noncomputable def rgObj (a b c : Int) (t u v : Tok) : Obj := { cls := .type "range", dict := none, data := .fields #[.int a t, .int b u, .int c v], slots := #[] }
noncomputable def riObj (x left step : Int) : Obj := { cls := .type "range_iterator", dict := none, data := .fields #[rawInt x, rawInt left, rawInt step], slots := #[] }
theorem range1_led {n : Int} {t : Tok} {Q : Value → Shared → Prop} (F : Fr h₀ L s.heap m) (N : News h₀ L s.heap news) (nd : Nd news)
    (h : ∀ r h' tk t1 t2, Fr h₀ L h' m → News h₀ L h' ((r, rgObj 0 n 1 t1 t t2) :: news) → Nd ((r, rgObj 0 n 1 t1 t t2) :: news) → Q (.ref r) { s with heap := h', toks := tk }) :
    wpAny (model prog w) A (call (.type "range") [.int n t]) Q E s :=
  call_range_1 (h _ _ _ _ _ (F.push _) (N.push F _) (nd_push N nd))
theorem range2_led {a b : Int} {t u : Tok} {Q : Value → Shared → Prop} (F : Fr h₀ L s.heap m) (N : News h₀ L s.heap news) (nd : Nd news)
    (h : ∀ r h' tk t2, Fr h₀ L h' m → News h₀ L h' ((r, rgObj a b 1 t u t2) :: news) → Nd ((r, rgObj a b 1 t u t2) :: news) → Q (.ref r) { s with heap := h', toks := tk }) :
    wpAny (model prog w) A (call (.type "range") [.int a t, .int b u]) Q E s :=
  call_range_2 (h _ _ _ _ (F.push _) (N.push F _) (nd_push N nd))
theorem small_of {a b : Int} (ha : 0 ≤ a) (ha' : a ≤ 1000) (hb : 0 ≤ b) (hb' : b ≤ 1000) : Builtin.Range.small a b 1 = true := small_one (by omega) (by omega) (by omega) (by omega)
theorem iter_range_led {r : Addr} {a b : Int} {t u v : Tok} {rest : List (Addr × Obj)} {Q : Value → Shared → Prop} (F : Fr h₀ L s.heap m) (N : News h₀ L s.heap ((r, rgObj a b 1 t u v) :: rest)) (nd : Nd ((r, rgObj a b 1 t u v) :: rest))
    (ha : 0 ≤ a) (ha' : a ≤ 1000) (hb : a ≤ b) (hb' : b ≤ 1000)
    (h : ∀ i h', Fr h₀ L h' m → News h₀ L h' ((i, riObj a (b - a) 1) :: rest) → Nd ((i, riObj a (b - a) 1) :: rest) → Q (.ref i) { s with heap := h' }) :
    wpAny (model prog w) A (pyIter (.ref r)) Q E s := by
  refine wpAny_pyIter_range (N _ (.head _)).1 (small_of ha ha' (by omega) hb') ?_
  have e : Builtin.Range.rangeSize a b 1 = b - a := by rw [rangeSize_one]; split <;> omega
  rw [e]
  have N1 : News h₀ L s.heap rest := fun p hp => N p (.tail _ hp)
  exact h _ _ (F.push _) (N1.push F _) (nd_push N1 (List.nodup_cons.mp nd).2)
theorem next_range_led {it : Addr} {x left step : Int} {rest : List (Addr × Obj)} {Q : Option Value → Shared → Prop} (F : Fr h₀ L s.heap m) (N : News h₀ L s.heap ((it, riObj x left step) :: rest)) (nd : Nd ((it, riObj x left step) :: rest)) (hleft : 0 < left)
    (h : ∀ h' tk t, Fr h₀ L h' m → News h₀ L h' ((it, riObj (x + step) (left - 1) step) :: rest) → Nd ((it, riObj (x + step) (left - 1) step) :: rest) → Q (some (.int x t)) { s with heap := h', toks := tk }) :
    wpAny (model prog w) A (pyNext (.ref it)) Q E s := by
  have z := N _ (.head _)
  refine wpAny_pyNext_range_item z.1 hleft fun h' hit' hs' => h h' _ _ (F.change hs' z.2.1 z.2.2) ?_ (nd_set (pre := []) nd)
  exact news_set (pre := []) (post := rest) N (fun _ q => nomatch q) (nd_post (pre := []) nd) hs' hit'
theorem next_range_end {it : Addr} {x left step : Int} {rest : List (Addr × Obj)} {Q : Option Value → Shared → Prop} (hh : A.handled = none) (F : Fr h₀ L s.heap m) (N : News h₀ L s.heap ((it, riObj x left step) :: rest)) (nd : Nd ((it, riObj x left step) :: rest)) (hleft : left ≤ 0)
    (h : ∀ h', Fr h₀ L h' m → News h₀ L h' rest → Nd rest → Q none { s with heap := h' }) :
    wpAny (model prog w) A (pyNext (.ref it)) Q E s := by
  have z := N _ (.head _)
  refine wpAny_pyNext_range_end hh z.1 hleft fun h' he => h h' ?_ (fun p hp => ?_) (List.nodup_cons.mp nd).2
  · refine ⟨F.ns.extBut he (Ne.symm z.2.1), fun b o e => he b o (fun q => ?_) (F.keep b o e), F.above⟩
    rw [q, z.2.2] at e; cases e
  · have P := N p (.tail _ hp)
    exact ⟨he _ _ (nd_post (pre := []) nd p hp) P.1, P.2⟩
theorem sub_ri_reversed : isSubtype (.type "range_iterator") (.type "reversed") = pure false := by rw [isSubtype_type]; kernel_rfl
theorem call_range_reversed {r : Addr} {n : Int} {t u v : Tok} {Q : Value → Shared → Prop} (hr : s.heap.get? r = some (rgObj 0 n 1 t u v)) (h0 : 0 ≤ n) (h1 : n ≤ 1000)
    (h : Q (.ref s.heap.objs.size) { s with heap := s.heap.push (riObj (n - 1) n (-1)) }) : wpAny (model prog w) A (call (.builtin "range.__reversed__") [.ref r]) Q E s := by
  have hT : s.TypeIs (.ref r) "range" := ⟨_, hr, rfl⟩
  refine wpAny_call_entry F.slot_range_reversed hT F.entry_range_reversed ?_ (F.args_range_reversed_1 _)
  unfold Builtin.«range.__reversed__»
  refine wpAny_bind (wpAny_of_eq (a := Value.ref r) rfl ?_)
  unfold Builtin.Range.rangeFields
  refine wpAny_bind (wpAny_bind (wpAny_field hr rfl (x := .int 0 t) rfl (wpAny_bind (wpAny_of_eq (a := some (0 : Int)) rfl (wpAny_bind (wpAny_field hr rfl (x := .int n u) rfl (wpAny_bind (wpAny_of_eq (a := some n) rfl
    (wpAny_bind (wpAny_field hr rfl (x := .int 1 v) rfl (wpAny_bind (wpAny_of_eq (a := some (1 : Int)) rfl (wpAny_pure ?_)))))))))))))
  dsimp only
  have e : Builtin.Range.rangeSize 0 n 1 = n := by rw [rangeSize_one]; split <;> omega
  have fit : ∀ k : Int, -2000 ≤ k → k ≤ 2000 → Builtin.Range.rangeFitsLong k = true := fun k k1 k2 => by
    unfold Builtin.Range.rangeFitsLong; simp; omega
  have hs : (Builtin.Range.rangeFitsLong 0 && Builtin.Range.rangeFitsLong n && Builtin.Range.rangeFitsLong 1 && Builtin.Range.rangeFitsLong (-1) && Builtin.Range.rangeFitsLong (0 - 1) && Builtin.Range.rangeFitsLong n) = true := by
    rw [fit 0 (by omega) (by omega), fit n (by omega) (by omega), fit 1 (by omega) (by omega), fit (-1) (by omega) (by omega), fit (0 - 1) (by omega) (by omega)]; rfl
  rw [e, hs]
  simp only [Bool.not_true, Bool.false_eq_true, if_false, if_true]
  have e2 : (0 : Int) + (n - 1) * 1 = n - 1 := by omega
  rw [e2]
  exact wpAny_bind (wpAny_newObj_type (wpAny_pure ⟨_, rfl, h⟩))
theorem call_reversed_range {r : Addr} {n : Int} {t u v : Tok} {Q : Value → Shared → Prop} (hr : s.heap.get? r = some (rgObj 0 n 1 t u v)) (h0 : 0 ≤ n) (h1 : n ≤ 1000)
    (h : Q (.ref s.heap.objs.size) { s with heap := s.heap.push (riObj (n - 1) n (-1)) }) : wpAny (model prog w) A (call (.type "reversed") [.ref r]) Q E s := by
  have hT : s.TypeIs (.ref r) "range" := ⟨_, hr, rfl⟩
  refine callType_other (U := "range_iterator") (Q₁ := fun obj s₁ => obj = .ref s.heap.objs.size ∧ s₁ = { s with heap := s.heap.push (riObj (n - 1) n (-1)) }) (by decide +kernel) F.create_reversed ⟨_, _, F.mro_reversed⟩ F.made_reversed sub_ri_reversed (F.typeCall_reversed_1 _) ?_ ?_
  · refine codeAny_of_tree ?_
    show wpAny _ A.in1.in1 (do checkBuiltinCall "reversed.__new__" ⟨[.type "reversed", .ref r], []⟩; again (.builtin "reversed.__new__" ⟨[.type "reversed", .ref r], []⟩)) _ _ s
    refine wpAny_bind (wpAny_of_eq (F.newCall_reversed_1 _) (wpAny_pure ⟨plainId_quiet F.plain_reversed_new _, codeAny_builtin F.entry_reversed_new ?_⟩))
    rw [Around.under_plainId F.plain_reversed_new _]
    unfold Builtin.«reversed.__new__»
    refine wpAny_bind (wpAny_of_eq (newClass_reversed _) ?_)
    try dsimp only
    refine wpAny_bind (wpAny_of_eq (a := ()) (by first | rfl | kernel_rfl) ?_)
    refine wpAny_bind (wpAny_of_eq (a := ()) (by first | rfl | kernel_rfl) ?_)
    try dsimp only
    refine wpAny_bind (wpAny_specialOf hT F.slot_range_reversed.lookup ?_)
    try dsimp only
    refine wpAny_bind (wpAny_of_eq (F.slot_range_reversed.bind _) ?_)
    try dsimp only
    rw [if_neg (show ¬ ((Value.builtin "range.__reversed__" == Value.none) = true) from Bool.false_ne_true)]
    refine wpAny_bind (wpAny_rule ?_)
    refine wpAny_bind (m := runValue (.call (.builtin "range.__reversed__") ⟨[.ref r], []⟩)) (show wpAny _ _ (call (.builtin "range.__reversed__") [.ref r]) _ _ _ from call_range_reversed hr h0 h1 ?_)
    first
    | exact wpAny_pure ⟨rfl, rfl⟩
    | exact wpAny_bind (wpAny_pure (wpAny_pure ⟨rfl, rfl⟩))
  · rintro obj s₁ ⟨rfl, rfl⟩
    exact ⟨⟨_, Heap.get?_push_size _ rfl, rfl⟩, h⟩
theorem reversed_led {r : Addr} {n : Int} {t u v : Tok} {rest : List (Addr × Obj)} {Q : Value → Shared → Prop} (F : Fr h₀ L s.heap m) (N : News h₀ L s.heap ((r, rgObj 0 n 1 t u v) :: rest)) (nd : Nd ((r, rgObj 0 n 1 t u v) :: rest)) (h0 : 0 ≤ n) (h1 : n ≤ 1000)
    (h : ∀ i h', Fr h₀ L h' m → News h₀ L h' ((i, riObj (n - 1) n (-1)) :: rest) → Nd ((i, riObj (n - 1) n (-1)) :: rest) → Q (.ref i) { s with heap := h' }) :
    wpAny (model prog w) A (call (.type "reversed") [.ref r]) Q E s := by
  refine call_reversed_range (N _ (.head _)).1 h0 h1 ?_
  have N1 : News h₀ L s.heap rest := fun p hp => N p (.tail _ hp)
  exact h _ _ (F.push _) (N1.push F _) (nd_push N1 (List.nodup_cons.mp nd).2)
theorem iter_ri_led {i : Addr} {x left step : Int} {rest : List (Addr × Obj)} {Q : Value → Shared → Prop} (N : News h₀ L s.heap ((i, riObj x left step) :: rest)) (h : Q (.ref i) s) : wpAny (model prog w) A (pyIter (.ref i)) Q E s :=
  wpAny_pyIter_rangeiter (N _ (.head _)).1 h
end
end Mine
end

/-! part SD -/
section
open PySem PySem.W PySem.Calls PyProof.Rows
set_option Elab.async false
set_option maxRecDepth 100000
set_option maxHeartbeats 8000000
namespace Mine
noncomputable def sdn (start : Nat) (x : Int × Int) (xs : List (Int × Int)) (pos : Nat) : List (Int × Int) :=
  if start < pos then
    if plt (xs.getD ((pos - 1) / 2) (0, 0)) x = true then sdn start x (xs.set pos (xs.getD ((pos - 1) / 2) (0, 0))) ((pos - 1) / 2) else xs.set pos x
  else xs.set pos x
termination_by pos
decreasing_by omega

theorem pairs_hide {g h : Heap} {H : Addr} {ls : Array Value} {n : Nat} {vs : List Value} {xs : List (Int × Int)} (hH : h.get? H = some (listOf ls n)) (hg1 : ∀ b o, h.get? b = some o → b ∉ ([(H, listOf ls n)] : List (Addr × Obj)).map (·.1) → g.get? b = some o)
    (p : PairsAt h vs xs) : PairsAt g vs xs := by
  induction p with
  | nil => exact .nil
  | cons h1 _ ih =>
    obtain ⟨a, t, u, k, e, q⟩ := h1
    refine .cons ⟨a, t, u, k, e, hg1 _ _ q fun z => ?_⟩ ih
    simp only [List.map_cons, List.map_nil, List.mem_singleton] at z
    rw [z, hH] at q
    have q1 := congrArg (fun o => o.map (fun (x : Obj) => x.cls)) q
    exact absurd q1 (by simp [pairObj, W.listOf])

theorem sd_spec {w : World} {mean : ExcName → Option Value} {mg mb : Str → Option Value} {dp un : Nat} {gd : Option (List Code)} {fr : Option (List Env)} {s : Shared} {h₀ : Heap} {L : Addr} {m : Str → Option Value}
    {H : Addr} {vs : List Value} {xs : List (Int × Int)} {n : Nat} {sp pos : Nat} {t u : Tok} {Q E : Value → Shared → Prop}
    (F : Fr h₀ L s.heap m) (X : (hd.heap_39 w.params).In h₀) (N : News h₀ L s.heap [(H, listOf vs.toArray n)]) (T : Top hd.view_39 (looseW hd.view_39 []) mean mg mb h₀) (hdp : dp ≤ 700) (hun : un ≤ 100)
    (hp : PairsAt s.heap vs xs) (h2 : pos < xs.length) (hv : xs.length ≤ 100)
    (hret : ∀ h' tk vs', Ev [(H, listOf vs.toArray n)] s.heap h' → h'.get? H = some (listOf vs'.toArray n) → (∀ k, PairsAt k vs xs → PairsAt k vs' (sdn sp (xs.getD pos (0, 0)) xs pos)) → Q .none { s with heap := h', toks := tk }) :
    wpAny (model Challenge.rw_oc0024_01.row.prog w) (ar dp un gd fr) (call (.ref 49) [.ref H, .int sp t, .int pos u]) Q E s := by
  revert X; k_fill; intro X
  k_dflt (refine' enterM (binds := [(Str.ofString "heap", .ref H), (Str.ofString "startpos", .int sp t), (Str.ofString "pos", .int pos u)]) ?k2 ?k3 ?k4 ?k5 ?k6 ?k7 ?k8 ?k9 ?kB ?_ ?c2 ?c3 ?c4 ?c5; walk_at "M.enter")
  intro g L' h' hg1 hg2 F' N' X' T'
  (try dsimp only)
  k_fold
  have hpg : PairsAt g vs xs := pairs_hide (N _ (.head _)).1 hg1 hp
  have hlen := hp.length
  obtain ⟨v, hv1, a, ta, ua, na, ev, ha⟩ := hpg.get h2
  rw [ev] at hv1
  walk_at "M.g0"
  refine item_led N' (.head _) (by omega) (by omega) (v := .ref a) (by simpa using hv1) ?_
  walk_at "M.g0"
  rename_i F1 N1
  refine wpAny_mono (whileM (fun k s' => Box (X5 fun h1 tk m1 vs1 xs1 => A11 (s' = { s with heap := h1, toks := tk }) (Fr g L' h1 m1) (m1 (Str.ofString "heap") = some (.ref H)) (m1 (Str.ofString "newitem") = some (.ref a)) (∃ t, m1 (Str.ofString "startpos") = some (.int sp t)) (∃ t, m1 (Str.ofString "pos") = some (.int (k : Nat) t)) (News g L' h1 [(H, listOf vs1.toArray n)]) (∀ k, PairsAt k vs xs → PairsAt k vs1 xs1) (k < xs1.length) (xs1.length = xs.length) (sdn sp (xs.getD pos (0, 0)) xs1 k = sdn sp (xs.getD pos (0, 0)) xs pos))) pos
     ⟨_, _, _, vs, xs, rfl, F1, rfl, rfl, ⟨_, rfl⟩, ⟨_, rfl⟩, N1, fun _ x => x, h2, rfl, rfl⟩ (Q := fun f s' => Box (A2 (f = .next) (X6 fun h1 tk m1 vs1 xs1 p => A10 (s' = { s with heap := h1, toks := tk }) (Fr g L' h1 m1) (m1 (Str.ofString "heap") = some (.ref H)) (m1 (Str.ofString "newitem") = some (.ref a)) (∃ t, m1 (Str.ofString "pos") = some (.int (p : Nat) t)) (News g L' h1 [(H, listOf vs1.toArray n)]) (∀ k, PairsAt k vs xs → PairsAt k vs1 xs1) (p < xs1.length) (xs1.length = xs.length) (xs1.set p (xs.getD pos (0, 0)) = sdn sp (xs.getD pos (0, 0)) xs pos)))) ?turn) ?cont (fun _ _ x => x)
  case turn =>
    rintro k P hP s' ⟨h1, tk, m1, vs1, xs1, rfl, F2, q1, q2, ⟨t3, q3⟩, ⟨t4, q4⟩, N2, hpa, g2, g3, g4⟩
    have hp1 := hpa g hpg
    replace F2 := fr_bnd F2 [(Str.ofString "heap", .ref H), (Str.ofString "newitem", .ref a), (Str.ofString "startpos", .int sp t3), (Str.ofString "pos", .int (k : Nat) t4)] (bd q1 (bd q2 (bd q3 (bd q4 bd0))))
    clear q1 q2 q3 q4
    walk_at "M.g0"
    · have e : ((k : Int) - 1).fdiv (2 ^ Int.toNat 1) = (((k - 1) / 2 : Nat) : Int) := by
        rw [show (2 : Int) ^ Int.toNat 1 = 2 from rfl, Int.fdiv_eq_ediv_of_nonneg _ (by decide)]; omega
      rename_i hlt F3 N3
      rw [e] at F3 ⊢
      obtain ⟨v', hv1', b, tb, ub, nb, ev', hb⟩ := hp1.get (i := (k - 1) / 2) (by omega)
      rw [ev'] at hv1'
      refine item_led N3 (.head _) (by omega) (by omega) (v := .ref b) (by rw [Int.toNat_natCast]; exact hv1') ?_
      walk_at "M.g0"
      rename_i F4 N4
      refine lt_pair (F4.keep _ _ hb) (F4.keep _ _ ha) (by ktr_units) ?_
      walk_at "M.g0"
      · rename_i hc
        refine set_led (pre := []) (post := []) F4 N4 (fun _ h => nomatch h) (fun _ h => nomatch h) (by omega) (by rw [hp1.length]; omega) (by omega) ?_
        intro h5 F5 N5
        walk_at "M.g0"
        rename_i F6 N6
        rw [Int.toNat_natCast] at N6
        refine hP .cont _ ⟨(k - 1) / 2, by omega, _, _, _, _, _, rfl, F6, rfl, rfl, ⟨_, rfl⟩, ⟨_, rfl⟩, N6, (fun k0 x => (hpa k0 x).set ((hpa k0 x).at hv1') k), by rw [List.length_set]; omega, by rw [List.length_set]; exact g3, ?_⟩
        rw [← g4]
        conv => rhs; unfold sdn
        rw [if_pos (by omega), if_pos hc]
      · rename_i hc
        refine hP .brk _ ⟨rfl, _, _, _, _, _, k, rfl, F4, rfl, rfl, ⟨_, rfl⟩, N4, hpa, g2, g3, ?_⟩
        rw [← g4]
        conv => rhs; unfold sdn
        rw [if_pos (by omega), if_neg (by rw [hc]; exact Bool.false_ne_true)]
    · rename_i hlt
      refine hP .brk _ ⟨rfl, _, _, _, _, _, k, rfl, F2, rfl, rfl, ⟨_, rfl⟩, N2, hpa, g2, g3, ?_⟩
      rw [← g4]
      conv => rhs; unfold sdn
      rw [if_neg (by omega)]
  case cont =>
    rintro f s' ⟨rfl, h1, tk, m1, vs1, xs1, p, rfl, F2, q1, q2, ⟨t4, q4⟩, N2, hpa, g2, g3, g4⟩
    have hp1 := hpa g hpg
    replace F2 := fr_bnd F2 [(Str.ofString "heap", .ref H), (Str.ofString "newitem", .ref a), (Str.ofString "pos", .int (p : Nat) t4)] (bd q1 (bd q2 (bd q4 bd0)))
    clear q1 q2 q4
    dsimp only
    walk_at "M.g0"
    refine set_led (pre := []) (post := []) F2 N2 (fun _ h => nomatch h) (fun _ h => nomatch h) (by omega) (by rw [hp1.length]; omega) (by omega) ?_
    intro h5 F5 N5
    walk_at "M.g0"
    rw [Int.toNat_natCast] at N5
    refine hret _ _ _ (ev_of hg1 F5) (N5 _ (.head _)).1 ?_
    rw [← g4]
    exact fun k0 x => (hpa k0 x).set (x.at hv1) p
end Mine
end

/-! part SU -/
section
open PySem PySem.W PySem.Calls PyProof.Rows
set_option Elab.async false
set_option maxRecDepth 100000
set_option maxHeartbeats 8000000
namespace Mine

noncomputable def chd (xs : List (Int × Int)) (pos : Nat) : Nat :=
  if 2 * pos + 2 < xs.length then (if plt (xs.getD (2 * pos + 2) (0, 0)) (xs.getD (2 * pos + 1) (0, 0)) = true then 2 * pos + 1 else 2 * pos + 2) else 2 * pos + 1
theorem chd_gt (xs : List (Int × Int)) (pos : Nat) : pos < chd xs pos := by unfold chd; split <;> (try split) <;> omega
theorem chd_lt {xs : List (Int × Int)} {pos : Nat} (h : 2 * pos + 1 < xs.length) : chd xs pos < xs.length := by unfold chd; split <;> (try split) <;> omega
set_option linter.unusedVariables false in
noncomputable def supGo (xs : List (Int × Int)) (pos : Nat) : List (Int × Int) × Nat :=
  if h : 2 * pos + 1 < xs.length then supGo (xs.set pos (xs.getD (chd xs pos) (0, 0))) (chd xs pos) else (xs, pos)
termination_by xs.length - pos
decreasing_by
  have h1 := chd_gt xs pos
  have h2 := chd_lt h
  rw [List.length_set]; omega
noncomputable def sup (xs : List (Int × Int)) (pos : Nat) : List (Int × Int) :=
  sdn pos (xs.getD pos (0, 0)) ((supGo xs pos).1.set (supGo xs pos).2 (xs.getD pos (0, 0))) (supGo xs pos).2

theorem su_spec {w : World} {mean : ExcName → Option Value} {mg mb : Str → Option Value} {dp un : Nat} {gd : Option (List Code)} {fr : Option (List Env)} {s : Shared} {h₀ : Heap} {L : Addr} {m : Str → Option Value}
    {H : Addr} {vs : List Value} {xs : List (Int × Int)} {n : Nat} {pos : Nat} {u : Tok} {Q E : Value → Shared → Prop}
    (F : Fr h₀ L s.heap m) (X : (hd.heap_39 w.params).In h₀) (N : News h₀ L s.heap [(H, listOf vs.toArray n)]) (T : Top hd.view_39 (looseW hd.view_39 []) mean mg mb h₀) (hdp : dp ≤ 690) (hun : un ≤ 90)
    (hp : PairsAt s.heap vs xs) (h2 : pos < xs.length) (hv : xs.length ≤ 100)
    (hret : ∀ h' tk vs', Ev [(H, listOf vs.toArray n)] s.heap h' → h'.get? H = some (listOf vs'.toArray n) → (∀ k, PairsAt k vs xs → PairsAt k vs' (sup xs pos)) → Q .none { s with heap := h', toks := tk }) :
    wpAny (model Challenge.rw_oc0024_01.row.prog w) (ar dp un gd fr) (call (.ref 56) [.ref H, .int pos u]) Q E s := by
  revert X; k_fill; intro X
  k_dflt (refine' enterM (binds := [(Str.ofString "heap", .ref H), (Str.ofString "pos", .int pos u)]) ?k2 ?k3 ?k4 ?k5 ?k6 ?k7 ?k8 ?k9 ?kB ?_ ?c2 ?c3 ?c4 ?c5; walk_at "M.enter")
  intro g L' h' hg1 hg2 F' N' X' T'
  (try dsimp only)
  k_fold
  have hpg : PairsAt g vs xs := pairs_hide (N _ (.head _)).1 hg1 hp
  have hlen := hp.length
  obtain ⟨v, hv1, a, ta, ua, na, ev, ha⟩ := hpg.get h2
  rw [ev] at hv1
  walk_at "M.g0"
  refine call_len_list (PySem.IsL.isList (n := n) (N' _ (.head _)).1) (by rw [List.size_toArray]; omega) ?_
  rw [List.size_toArray, hlen]
  walk_at "M.g0"
  rename_i F1 N1
  refine item_led N1 (.head _) (by omega) (by omega) (v := .ref a) (by simpa using hv1) ?_
  walk_at "M.g0"
  rename_i F1 N1
  have e2 : (2 : Int) * (pos : Int) + 1 = ((2 * pos + 1 : Nat) : Int) := by omega
  rw [e2] at F1
  refine wpAny_mono (whileM (fun k s' => Box (X6 fun h1 tk m1 vs1 xs1 p => A14 (s' = { s with heap := h1, toks := tk }) (k = xs1.length - p) (Fr g L' h1 m1) (m1 (Str.ofString "heap") = some (.ref H)) (m1 (Str.ofString "newitem") = some (.ref a)) (∃ t, m1 (Str.ofString "startpos") = some (.int (pos : Nat) t)) (∃ t, m1 (Str.ofString "pos") = some (.int (p : Nat) t)) (∃ t, m1 (Str.ofString "endpos") = some (.int (xs1.length : Nat) t)) (∃ t, m1 (Str.ofString "childpos") = some (.int (2 * p + 1 : Nat) t)) (News g L' h1 [(H, listOf vs1.toArray n)]) (∀ k, PairsAt k vs xs → PairsAt k vs1 xs1) (p < xs1.length) (xs1.length = xs.length) (supGo xs1 p = supGo xs pos))) (xs.length - pos)
     ⟨_, _, _, vs, xs, pos, rfl, rfl, F1, rfl, rfl, ⟨_, rfl⟩, ⟨_, rfl⟩, ⟨_, rfl⟩, ⟨_, rfl⟩, N1, fun _ x => x, h2, rfl, rfl⟩ (Q := fun f s' => Box (A2 (f = .next) (X6 fun h1 tk m1 vs1 xs1 p => A11 (s' = { s with heap := h1, toks := tk }) (Fr g L' h1 m1) (m1 (Str.ofString "heap") = some (.ref H)) (m1 (Str.ofString "newitem") = some (.ref a)) (∃ t, m1 (Str.ofString "startpos") = some (.int (pos : Nat) t)) (∃ t, m1 (Str.ofString "pos") = some (.int (p : Nat) t)) (News g L' h1 [(H, listOf vs1.toArray n)]) (∀ k, PairsAt k vs xs → PairsAt k vs1 xs1) (p < xs1.length) (xs1.length = xs.length) ((xs1, p) = supGo xs pos)))) ?turn) ?cont (fun _ _ x => x)
  case turn =>
    rintro k P hP s' ⟨h1, tk, m1, vs1, xs1, p, rfl, rfl, F2, q1, q2, ⟨t3, q3⟩, ⟨t4, q4⟩, ⟨t5, q5⟩, ⟨t6, q6⟩, N2, hpa, g2, g3, g4⟩
    have hp1 := hpa g hpg
    replace F2 := fr_bnd F2 [(Str.ofString "heap", .ref H), (Str.ofString "newitem", .ref a), (Str.ofString "startpos", .int (pos : Nat) t3), (Str.ofString "pos", .int (p : Nat) t4), (Str.ofString "endpos", .int (xs1.length : Nat) t5), (Str.ofString "childpos", .int (2 * p + 1 : Nat) t6)] (bd q1 (bd q2 (bd q3 (bd q4 (bd q5 (bd q6 bd0))))))
    clear q1 q2 q3 q4 q5 q6
    walk_at "M.g1"
    · rename_i hlt F3 N3
      have hlt' : 2 * p + 1 < xs1.length := by omega
      have e1 : (((2 * p + 1 : Nat) : Int) + 1) = ((2 * p + 2 : Nat) : Int) := by omega
      rw [e1] at F3
      refine midQ (fun f s' => Box (A2 (f = .next) (X3 fun h1 tk m1 => A9 (s' = { s with heap := h1, toks := tk }) (Fr g L' h1 m1) (m1 (Str.ofString "heap") = some (.ref H)) (m1 (Str.ofString "newitem") = some (.ref a)) (∃ t, m1 (Str.ofString "startpos") = some (.int (pos : Nat) t)) (∃ t, m1 (Str.ofString "pos") = some (.int (p : Nat) t)) (∃ t, m1 (Str.ofString "endpos") = some (.int (xs1.length : Nat) t)) (∃ t, m1 (Str.ofString "childpos") = some (.int (chd xs1 p : Nat) t)) (News g L' h1 [(H, listOf vs1.toArray n)])))) ?if1 ?rest
      case if1 =>
        intro P2 hP2
        walk_at "M.g0"
        · rename_i hr
          have hr' : 2 * p + 2 < xs1.length := by omega
          obtain ⟨v1, hb1, b, tb, ub, nb, ev1, hb⟩ := hp1.get (i := 2 * p + 2) hr'
          rw [ev1] at hb1
          refine item_led N3 (.head _) (by omega) (by omega) (v := .ref b) (by rw [Int.toNat_natCast]; exact hb1) ?_
          walk_at "M.g0"
          obtain ⟨v2, hc1, c, tc, uc, nc, ev2, hc⟩ := hp1.get (i := 2 * p + 1) hlt'
          rw [ev2] at hc1
          refine item_led N3 (.head _) (by omega) (by omega) (v := .ref c) (by rw [Int.toNat_natCast]; exact hc1) ?_
          walk_at "M.g0"
          refine lt_pair (F3.keep _ _ hb) (F3.keep _ _ hc) (by ktr_units) ?_
          walk_at "M.g0"
          · rename_i hn
            have ec : chd xs1 p = 2 * p + 1 := by unfold chd; rw [if_pos hr', if_pos (by simpa using hn)]
            refine hP2 .next _ ?_
            show Box _
            rw [ec]
            exact ⟨rfl, _, _, _, rfl, F3, rfl, rfl, ⟨_, rfl⟩, ⟨_, rfl⟩, ⟨_, rfl⟩, ⟨_, rfl⟩, N3⟩
          · rename_i hn hh4 F4 N4
            have ec : chd xs1 p = 2 * p + 2 := by unfold chd; rw [if_pos hr', if_neg (by simpa using hn)]
            refine hP2 .next _ ?_
            show Box _
            rw [ec]
            exact ⟨rfl, _, _, _, rfl, F4, rfl, rfl, ⟨_, rfl⟩, ⟨_, rfl⟩, ⟨_, rfl⟩, ⟨_, rfl⟩, N4⟩
        · rename_i hr
          have ec : chd xs1 p = 2 * p + 1 := by unfold chd; rw [if_neg (by omega)]
          refine hP2 .next _ ?_
          show Box _
          rw [ec]
          exact ⟨rfl, _, _, _, rfl, F3, rfl, rfl, ⟨_, rfl⟩, ⟨_, rfl⟩, ⟨_, rfl⟩, ⟨_, rfl⟩, N3⟩
      case rest =>
        rintro f s' ⟨rfl, h1, tk, m1, rfl, F2, q1, q2, ⟨t3, q3⟩, ⟨t4, q4⟩, ⟨t5, q5⟩, ⟨t6, q6⟩, N2⟩
        replace F2 := fr_bnd F2 [(Str.ofString "heap", .ref H), (Str.ofString "newitem", .ref a), (Str.ofString "startpos", .int (pos : Nat) t3), (Str.ofString "pos", .int (p : Nat) t4), (Str.ofString "endpos", .int (xs1.length : Nat) t5), (Str.ofString "childpos", .int (chd xs1 p : Nat) t6)] (bd q1 (bd q2 (bd q3 (bd q4 (bd q5 (bd q6 bd0))))))
        clear q1 q2 q3 q4 q5 q6 F3 N3
        dsimp only
        have hcl := chd_lt hlt'
        have hcg := chd_gt xs1 p
        obtain ⟨v1, hb1, b, tb, ub, nb, ev1, hb⟩ := hp1.get hcl
        rw [ev1] at hb1
        generalize hcc : chd xs1 p = cc at *
        walk_at "M.g0"
        refine item_led N2 (.head _) (by omega) (by omega) (v := .ref b) (by rw [Int.toNat_natCast]; exact hb1) ?_
        walk_at "M.g0"
        refine set_led (pre := []) (post := []) F2 N2 (fun _ h => nomatch h) (fun _ h => nomatch h) (by omega) (by rw [hp1.length]; omega) (by omega) ?_
        intro h5 F5 N5
        walk_at "M.g0"
        rename_i F6 N6
        rw [Int.toNat_natCast] at N6
        have e2 : (2 : Int) * (cc : Int) + 1 = ((2 * cc + 1 : Nat) : Int) := by omega
        rw [e2] at F6
        refine hP .next _ ⟨xs1.length - cc, by omega, _, _, _, _, _, cc, rfl, by rw [List.length_set], F6, rfl, rfl, ⟨_, rfl⟩, ⟨_, rfl⟩, ⟨_, by rw [List.length_set]; rfl⟩, ⟨_, rfl⟩, N6, (fun k0 x => (hpa k0 x).set ((hpa k0 x).at hb1) p), by rw [List.length_set]; exact hcl, by rw [List.length_set]; exact g3, ?_⟩
        rw [← g4]
        conv => rhs; unfold supGo
        rw [dif_pos hlt', hcc]
    · rename_i hlt
      refine hP .brk _ ⟨rfl, _, _, _, _, _, p, rfl, F2, rfl, rfl, ⟨_, rfl⟩, ⟨_, rfl⟩, N2, hpa, g2, g3, ?_⟩
      rw [← g4]
      conv => rhs; unfold supGo
      rw [dif_neg (by omega)]
  case cont =>
    rintro f s' ⟨rfl, h1, tk, m1, vs1, xs1, p, rfl, F2, q1, q2, ⟨t3, q3⟩, ⟨t4, q4⟩, N2, hpa, g2, g3, g4⟩
    have hp1 := hpa g hpg
    replace F2 := fr_bnd F2 [(Str.ofString "heap", .ref H), (Str.ofString "newitem", .ref a), (Str.ofString "startpos", .int (pos : Nat) t3), (Str.ofString "pos", .int (p : Nat) t4)] (bd q1 (bd q2 (bd q3 (bd q4 bd0))))
    clear q1 q2 q3 q4
    dsimp only
    walk_at "M.g0"
    refine set_led (pre := []) (post := []) F2 N2 (fun _ h => nomatch h) (fun _ h => nomatch h) (by omega) (by rw [hp1.length]; omega) (by omega) ?_
    intro h5 F5 N5
    rw [Int.toNat_natCast] at N5
    walk_at "M.g0"
    have hp5 : PairsAt h5 (vs1.set p (.ref a)) (xs1.set p (xs.getD pos (0, 0))) := (hp1.set ⟨a, ta, ua, na, rfl, ha⟩ p).keeps F5.keep
    refine sd_spec (dp := dp + 1) (un := un + 3) F5 X' N5 T' (by omega) (by omega) hp5 (by rw [List.length_set]; exact g2) (by rw [List.length_set, g3]; exact hv) ?_
    intro h6 tk6 vs6 E6 n6 p6
    walk_at "M.g0"
    refine hret _ _ _ (fun b o e1 e2 => E6 b o (F5.keep b o (hg1 b o e1 e2)) e2) n6 ?_
    have e7 : (xs1.set p (xs.getD pos (0, 0))).getD p (0, 0) = xs.getD pos (0, 0) := by
      rw [List.getD_eq_getElem?_getD, List.getElem?_set_self g2]; rfl
    rw [e7] at p6
    unfold sup
    rw [← g4]
    exact fun k0 x => p6 k0 ((hpa k0 x).set (x.at hv1) p)
end Mine
end

/-! part HP -/
section
open PySem PySem.W PySem.Calls PyProof.Rows
set_option Elab.async false
set_option maxRecDepth 100000
set_option maxHeartbeats 8000000
namespace Mine

theorem hr_spec {w : World} {mean : ExcName → Option Value} {mg mb : Str → Option Value} {dp un : Nat} {gd : Option (List Code)} {fr : Option (List Env)} {s : Shared} {h₀ : Heap} {L : Addr} {m : Str → Option Value}
    {H c : Addr} {vs : List Value} {xs : List (Int × Int)} {x : Int × Int} {n : Nat} {tc uc : Tok} {nc : Nat} {Q E : Value → Shared → Prop}
    (F : Fr h₀ L s.heap m) (X : (hd.heap_39 w.params).In h₀) (N : News h₀ L s.heap [(H, listOf vs.toArray n)]) (T : Top hd.view_39 (looseW hd.view_39 []) mean mg mb h₀) (hdp : dp ≤ 680) (hun : un ≤ 80)
    (hp : PairsAt s.heap vs xs) (h2 : 0 < xs.length) (hv : xs.length ≤ 100) (hc : s.heap.get? c = some (pairObj x tc uc nc))
    (hret : ∀ h' tk vs' v, Ev [(H, listOf vs.toArray n)] s.heap h' → h'.get? H = some (listOf vs'.toArray n) → (∀ k, PairsAt k vs xs → PairAt k (.ref c) x → PairsAt k vs' (sup (xs.set 0 x) 0)) → vs[0]? = some v → Q v { s with heap := h', toks := tk }) :
    wpAny (model Challenge.rw_oc0024_01.row.prog w) (ar dp un gd fr) (call (.ref 35) [.ref H, .ref c]) Q E s := by
  revert X; k_fill; intro X
  k_dflt (refine' enterM (binds := [(Str.ofString "heap", .ref H), (Str.ofString "item", .ref c)]) ?k2 ?k3 ?k4 ?k5 ?k6 ?k7 ?k8 ?k9 ?kB ?_ ?c2 ?c3 ?c4 ?c5; walk_at "M.enter")
  intro g L' h' hg1 hg2 F' N' X' T'
  (try dsimp only)
  k_fold
  have hpg : PairsAt g vs xs := pairs_hide (N _ (.head _)).1 hg1 hp
  have hcg : PairsAt g [.ref c] [x] := pairs_hide (N _ (.head _)).1 hg1 (.cons ⟨c, tc, uc, nc, rfl, hc⟩ .nil)
  have hcg : PairAt g (.ref c) x := by cases hcg; assumption
  have hlen := hp.length
  obtain ⟨v, hv1, hv2⟩ := hpg.get h2
  walk_at "M.g0"
  refine item_led N' (.head _) (by omega) (by omega) (v := v) hv1 ?_
  walk_at "M.g0"
  rename_i F1 N1
  refine set_led (pre := []) (post := []) F1 N1 (fun _ h => nomatch h) (fun _ h => nomatch h) (by omega) (by omega) (by omega) ?_
  intro h5 F5 N5
  walk_at "M.g0"
  refine su_spec (pos := 0) (dp := dp + 1) (un := un + 3) F5 X' N5 T' (by omega) (by omega) ((hpg.set hcg 0).keeps F5.keep) (by rw [List.length_set]; exact h2) (by rw [List.length_set]; exact hv) ?_
  intro h6 tk6 vs6 E6 n6 p6
  obtain ⟨F6, N6, _⟩ := back1 (pre := []) (post := []) F5 N5 (by simp [Nd]) E6 n6
  walk_at "M.g0"
  exact hret _ _ _ _ (fun b o e1 e2 => E6 b o (F5.keep b o (hg1 b o e1 e2)) e2) n6 (fun k0 x1 x2 => p6 k0 (x1.set x2 0)) hv1

noncomputable def hfy (xs : List (Int × Int)) (i : Nat) : List (Int × Int) := match i with | 0 => xs | i + 1 => hfy (sup xs i) i
theorem sdn_length (start : Nat) (x : Int × Int) (xs : List (Int × Int)) (pos : Nat) : (sdn start x xs pos).length = xs.length := by
  induction pos using Nat.strongRecOn generalizing xs with
  | _ pos ih =>
    unfold sdn
    split
    · split
      · rw [ih _ (by omega), List.length_set]
      · rw [List.length_set]
    · rw [List.length_set]
theorem supGo_length (xs : List (Int × Int)) (pos : Nat) : (supGo xs pos).1.length = xs.length := by
  generalize hk : xs.length - pos = k
  induction k using Nat.strongRecOn generalizing xs pos with
  | _ k ih =>
    unfold supGo
    split
    · rename_i h
      have h1 := chd_gt xs pos
      have h2 := chd_lt h
      rw [ih _ (by rw [List.length_set]; omega) _ _ rfl, List.length_set]
    · rfl
theorem sup_length (xs : List (Int × Int)) (pos : Nat) : (sup xs pos).length = xs.length := by
  unfold sup; rw [sdn_length, List.length_set, supGo_length]

theorem hf_spec {w : World} {mean : ExcName → Option Value} {mg mb : Str → Option Value} {dp un : Nat} {gd : Option (List Code)} {fr : Option (List Env)} {s : Shared} {h₀ : Heap} {L : Addr} {m : Str → Option Value}
    {H : Addr} {vs : List Value} {xs : List (Int × Int)} {n : Nat} {Q E : Value → Shared → Prop}
    (F : Fr h₀ L s.heap m) (X : (hd.heap_39 w.params).In h₀) (N : News h₀ L s.heap [(H, listOf vs.toArray n)]) (T : Top hd.view_39 (looseW hd.view_39 []) mean mg mb h₀) (hdp : dp ≤ 680) (hun : un ≤ 80)
    (hp : PairsAt s.heap vs xs) (hv : xs.length ≤ 100)
    (hret : ∀ h' tk vs', Ev [(H, listOf vs.toArray n)] s.heap h' → h'.get? H = some (listOf vs'.toArray n) → (∀ k, PairsAt k vs xs → PairsAt k vs' (hfy xs (xs.length / 2))) → Q .none { s with heap := h', toks := tk }) :
    wpAny (model Challenge.rw_oc0024_01.row.prog w) (ar dp un gd fr) (call (.ref 42) [.ref H]) Q E s := by
  revert X; k_fill; intro X
  k_dflt (refine' enterM (binds := [(Str.ofString "x", .ref H)]) ?k2 ?k3 ?k4 ?k5 ?k6 ?k7 ?k8 ?k9 ?kB ?_ ?c2 ?c3 ?c4 ?c5; walk_at "M.enter")
  intro g L' h' hg1 hg2 F' N' X' T'
  (try dsimp only)
  k_fold
  have hpg : PairsAt g vs xs := pairs_hide (N _ (.head _)).1 hg1 hp
  have hlen := hp.length
  walk_at "M.g0"
  refine call_len_list (PySem.IsL.isList (n := n) (N' _ (.head _)).1) (by rw [List.size_toArray]; omega) ?_
  rw [List.size_toArray, hlen]
  walk_at "M.g0"
  refine wpAny_mono (forM (Q := fun f s' => Box (A2 (f = .next) (X3 fun h1 tk vs1 => A4 (s' = { s with heap := h1, toks := tk }) (∃ m1, Fr g L' h1 m1) (News g L' h1 [(H, listOf vs1.toArray n)]) (∀ k, PairsAt k vs xs → PairsAt k vs1 (hfy xs (xs.length / 2)))))) ?iter) ?cont (fun _ _ x => x)
  case iter =>
    walk_at "M.g0"
    rename_i F1 N1
    have e : (xs.length : Int).fdiv 2 = ((xs.length / 2 : Nat) : Int) := by
      rw [Int.fdiv_eq_ediv_of_nonneg _ (by decide)]; omega
    rw [e]
    refine range1_led F1 N1 (by simp [Nd]) ?_
    intro r h2 tk2 t1 t2 F2 N2 nd2
    walk_at "M.g0"
    refine reversed_led F2 N2 nd2 (by omega) (by omega) ?_
    intro i h3 F3 N3 nd3
    walk_at "M.g0"
    refine iter_ri_led N3 ?_
    refine ⟨fun k s' => Box (X5 fun h1 tk m1 vs1 xs1 => A9 (s' = { s with heap := h1, toks := tk }) (Fr g L' h1 m1) (m1 (Str.ofString "x") = some (.ref H)) (News g L' h1 [(i, riObj ((k : Int) - 1) k (-1)), (H, listOf vs1.toArray n)]) (Nd [(i, riObj ((k : Int) - 1) k (-1)), (H, listOf vs1.toArray n)]) (∀ k, PairsAt k vs xs → PairsAt k vs1 xs1) (k ≤ xs1.length / 2) (xs1.length = xs.length) (hfy xs1 k = hfy xs (xs.length / 2))), xs.length / 2,
      ⟨_, _, _, vs, xs, rfl, F3, rfl, N3, nd3, fun _ x => x, Nat.le_refl _, rfl, rfl⟩, fun _ => rfl, ?_⟩
    rintro k P hP s' ⟨h1, tk, m1, vs1, xs1, rfl, F4, q1, N4, nd4, hp1, g1, g2, g3⟩
    cases k with
    | zero =>
      refine next_range_end rfl F4 N4 nd4 (by omega) ?_
      intro h5 F5 N5 _
      exact hP .brk _ ⟨rfl, _, _, vs1, rfl, ⟨_, F5⟩, N5, g3 ▸ hp1⟩
    | succ k =>
      refine next_range_led F4 N4 nd4 (by omega) ?_
      intro h5 tk5 t5 F5 N5 nd5
      rw [show (((k + 1 : Nat) : Int) - 1 + -1) = (k : Int) - 1 by omega, show (((k + 1 : Nat) : Int) - 1) = (k : Int) by omega] at N5 nd5
      rw [show (((k + 1 : Nat) : Int) - 1) = (k : Int) by omega]
      replace F5 := fr_bnd F5 [(Str.ofString "x", .ref H)] (bd q1 bd0)
      unfold ForP
      walk_at "M.g0"
      rename_i F6 N6
      refine su_spec (pos := k) (dp := dp + 1) (un := un + 3) F6 X' (news_subS (l' := [(H, listOf vs1.toArray n)]) N6 (by walk_at "M.sub")) T' (by omega) (by omega) ((hp1 g hpg).keeps F6.keep) (by omega) (by omega) ?_
      intro h7 tk7 vs7 E7 n7 p7
      obtain ⟨F8, N8, nd8⟩ := back1 (pre := [(i, riObj ((k : Int) - 1) k (-1))]) (post := []) F6 N6 nd5 E7 n7
      walk_at "M.g0"
      exact hP .next _ ⟨k, Nat.lt_succ_self _, _, _, _, vs7, sup xs1 k, rfl, F8, rfl, N8, nd8, fun k0 x => p7 k0 (hp1 k0 x), by rw [sup_length]; omega, by rw [sup_length]; exact g2, g3⟩
  case cont =>
    rintro f s' ⟨rfl, h1, tk, vs1, rfl, ⟨m1, F2⟩, N2, hp1⟩
    walk_at "M.g0"
    exact hret _ _ _ (ev_of hg1 F2) (N2 _ (.head _)).1 hp1
end Mine
end

/-! part ST -/
section
open PySem PySem.W PySem.Calls PyProof.Rows
open PySem.Builtin PySem.Builtin.Str
set_option maxRecDepth 100000
set_option maxHeartbeats 1000000
namespace Mine
theorem filterMap_map_range (xs : List Nat) (lo k : Nat) (h : lo + k ≤ xs.length) : ((List.range k).map (fun i => lo + i)).filterMap (fun i => xs[i]?) = (xs.drop lo).take k := by
  induction k with
  | zero => simp
  | succ k ih =>
    rw [List.range_succ, List.map_append, List.filterMap_append, ih (by omega), List.take_add_one]
    congr 1
    have : lo + k < xs.length := by omega
    simp [this]
theorem slice_list (x : Str) (l u : Option Int) (lo k : Nat) (h : lo + k ≤ x.cps.toList.length) (e : strSliceIndices l u 1 x.length = (List.range k).map (fun i => lo + i)) : (Txt.slice x l u).cps.toList = (x.cps.toList.drop lo).take k := by
  have hl : x.cps.toList.length = x.length := by simp [Str.length]
  unfold Txt.slice
  rw [e]
  split
  · rename_i q
    simp only [beq_self_eq_true, Bool.true_and, beq_iff_eq, List.length_map, List.length_range] at q
    have : lo = 0 := by omega
    subst this
    rw [List.drop_zero, List.take_of_length_le (by omega)]
  · show (List.toArray _).toList = _
    rw [List.toList_toArray, ← filterMap_map_range _ _ _ h]
    congr 1
    funext i
    rw [Array.getElem?_toList]
theorem sliceRange_one (lo hi : Int) (a k : Nat) (h1 : lo = a) (h2 : hi = (a : Int) + k) : sliceRange lo hi 1 = (List.range k).map (fun i => a + i) := by
  subst h1 h2
  unfold sliceRange
  have hc : (if (1 : Int) > 0 then (if (a : Int) < (a : Int) + k then ((a : Int) + k - a + 1 - 1) / 1 else 0) else (if (a : Int) > (a : Int) + k then ((a : Int) - ((a : Int) + k) - 1 - 1) / (-1) else 0)) = (k : Int) := by
    rw [if_pos (by decide)]; split <;> omega
  simp only [hc, Int.toNat_natCast]
  refine List.map_congr_left fun i _ => ?_
  omega
theorem slice_ss (x : Str) (i j : Nat) (h1 : i ≤ j) (h2 : j ≤ x.cps.toList.length) : (Txt.slice x (some i) (some j)).cps.toList = (x.cps.toList.drop i).take (j - i) := by
  have hl : x.cps.toList.length = x.length := by simp [Str.length]
  refine slice_list x _ _ i (j - i) (by omega) ?_
  unfold strSliceIndices
  refine sliceRange_one _ _ i (j - i) ?_ ?_
  · simp only [gt_iff_lt, Int.zero_lt_one, if_true]; rw [if_neg (by omega)]; omega
  · simp only [gt_iff_lt, Int.zero_lt_one, if_true]; rw [if_neg (by omega)]; omega
/-- x[-k:] -/
theorem slice_neg (x : Str) (k : Nat) (h0 : 0 < k) : (Txt.slice x (some (-(k : Int))) none).cps.toList = x.cps.toList.drop (x.cps.toList.length - k) := by
  have hl : x.cps.toList.length = x.length := by simp [Str.length]
  rw [slice_list x _ _ (x.length - k) (x.length - (x.length - k)) (by omega) ?_, hl, List.take_of_length_le (by rw [List.length_drop]; omega)]
  unfold strSliceIndices
  refine sliceRange_one _ _ _ _ ?_ ?_
  · simp only [gt_iff_lt, Int.zero_lt_one, if_true]; rw [if_pos (by omega)]; omega
  · simp only [gt_iff_lt, Int.zero_lt_one, if_true]; omega
/-- x[:-k] -/
theorem slice_upto (x : Str) (k : Nat) (h0 : 0 < k) : (Txt.slice x none (some (-(k : Int)))).cps.toList = x.cps.toList.take (x.cps.toList.length - k) := by
  have hl : x.cps.toList.length = x.length := by simp [Str.length]
  rw [slice_list x _ _ 0 (x.length - k) (by omega) ?_, hl, List.drop_zero]
  unfold strSliceIndices
  refine sliceRange_one _ _ _ _ ?_ ?_
  · simp only [gt_iff_lt, Int.zero_lt_one, if_true]; omega
  · simp only [gt_iff_lt, Int.zero_lt_one, if_true]; rw [if_pos (by omega)]; omega

section
variable {prog : Program} {w : World} {A : Around} {E : Value → Shared → Prop} {s : Shared}
theorem item_strM {value slice : Expr} {x : Str} {t u : Tok} {i c : Nat} {Q : Value → Shared → Prop} (hi : x.cps.toList[i]? = some c) (hs1 : i < 2 ^ 62) (h : ∀ tk t', Q (.str ⟨#[c]⟩ t') { s with toks := tk })
    (hs : subscripted slice false (.str x t) (.int (i : Int) u) = operate [.str x t, .int (i : Int) u] (getItem (.str x t) (.int (i : Int) u)) := by with_unfolding_all rfl)
    (ht : ∀ r, letTemporaryGo value (.str x t) r = pure () := by intro _; with_unfolding_all rfl) :
    wpAny (model prog w) A (subscriptTail value slice (.str x t) (.int (i : Int) u)) Q E s := by
  have hl : x.cps.toList.length = x.length := by simp [Str.length]
  have hlt : i < x.length := by rw [← hl]; exact (List.getElem?_eq_some_iff.mp hi).1
  have e : Txt.item x (i : Int) = ⟨#[c]⟩ := by
    unfold Txt.item Txt.charAt seqIndex?
    have : (if (i : Int) < 0 then (i : Int) + x.length else (i : Int)) = i := if_neg (by omega)
    simp only [this]
    rw [if_pos (by simp; omega)]
    simp only [Int.toNat_natCast, Option.bind_some]
    rw [← Array.getElem?_toList, hi]; rfl
  refine item_str (by unfold fitsSsize; simp; omega) (by omega) (by omega) (fun _ => ?_) hs ht
  rw [e]
  exact h _ _
end
theorem eq_blank (c : Nat) : ((⟨#[c]⟩ : Str) == Str.ofString " ") = (c == 32) := by
  by_cases h : c = 32
  · subst h; decide
  · rw [beq_eq_false_iff_ne.mpr h, beq_eq_false_iff_ne]
    intro q
    have e : Str.ofString " " = ⟨#[32]⟩ := by decide
    rw [e] at q
    injection q with q
    exact h (by simpa using q)
end Mine
end

/-! part SP -/
section
open PySem PySem.W PySem.Calls PyProof.Rows
set_option Elab.async false
set_option maxRecDepth 100000
set_option maxHeartbeats 8000000
namespace Mine

/-- blanks, a body, blanks -/
noncomputable def padL (a : Nat) (body : List Nat) (b : Nat) : List Nat := List.replicate a 32 ++ (body ++ List.replicate b 32)
theorem padL_length (a : Nat) (body : List Nat) (b : Nat) : (padL a body b).length = a + body.length + b := by simp [padL]; omega
theorem padL_left {a : Nat} {body : List Nat} {b i : Nat} (h : i < a) : (padL a body b)[i]? = some 32 := by
  unfold padL
  rw [List.getElem?_append_left (by simpa using h), List.getElem?_replicate, if_pos h]
theorem padL_mid {a : Nat} {body : List Nat} {b c : Nat} (h : body.head? = some c) : (padL a body b)[a]? = some c := by
  unfold padL
  rw [List.getElem?_append_right (by simp), List.length_replicate, Nat.sub_self]
  cases body with
  | nil => cases h
  | cons d r => simpa using h
theorem padL_right {a : Nat} {body : List Nat} {b j : Nat} (h : j < b) : (padL a body b)[a + body.length + b - 1 - j]? = some 32 := by
  unfold padL
  rw [List.getElem?_append_right (by simp; omega), List.length_replicate, List.getElem?_append_right (by omega), List.getElem?_replicate, if_pos (by omega)]
theorem padL_cut (a : Nat) (body : List Nat) (b i j : Nat) (h1 : i ≤ a) (h2 : j ≤ b) : ((padL a body b).drop i).take (a + body.length + b - j - i) = padL (a - i) body (b - j) := by
  unfold padL
  rw [List.drop_append_of_le_length (by simpa using h1), List.drop_replicate]
  rw [List.take_append, List.length_replicate, List.take_of_length_le (by simp; omega), List.take_append, List.take_of_length_le (by omega), List.take_replicate]
  congr 3
  omega

theorem sp_spec {w : World} {mean : ExcName → Option Value} {mg mb : Str → Option Value} {dp un : Nat} {gd : Option (List Code)} {fr : Option (List Env)} {s : Shared} {h₀ : Heap} {L : Addr} {m : Str → Option Value}
    {x : Str} {t u : Tok} {a b k c : Nat} {body : List Nat} {Q E : Value → Shared → Prop}
    (F : Fr h₀ L s.heap m) (X : (hd.heap_39 w.params).In h₀) (T : Top hd.view_39 (looseW hd.view_39 []) mean mg mb h₀) (hdp : dp ≤ 680) (hun : un ≤ 80)
    (hx : x.cps.toList = padL a body b) (hc : body.head? = some c) (hc2 : c ≠ 32) (hk : k ≤ a + b) (hsz : a + body.length + b ≤ 1000)
    (hret : ∀ h' tk t' y, Ev [] s.heap h' → y.cps.toList = padL (a - k) body (b - (k - a)) → Q (.str y t') { s with heap := h', toks := tk }) :
    wpAny (model Challenge.rw_oc0024_01.row.prog w) (ar dp un gd fr) (call (.ref 28) [.str x t, .int k u]) Q E s := by
  have N : News h₀ L s.heap [] := News.nil
  revert X; k_fill; intro X
  k_dflt (refine' enterM (binds := [(Str.ofString "s", .str x t), (Str.ofString "amount", .int k u)]) ?k2 ?k3 ?k4 ?k5 ?k6 ?k7 ?k8 ?k9 ?kB ?_ ?c2 ?c3 ?c4 ?c5; walk_at "M.enter")
  intro g L' h' hg1 hg2 F' N' X' T'
  (try dsimp only)
  k_fold
  have hlen : x.length = a + body.length + b := by rw [← padL_length, ← hx]; simp [Str.length]
  walk_at "M.g2"
  rename_i F1 N1
  refine wpAny_mono (whileM (fun n s' => Box (X4 fun h1 tk m1 i => A8 (s' = { s with heap := h1, toks := tk }) (n = k - i) (Fr g L' h1 m1) (m1 (Str.ofString "s") = some (.str x t)) (∃ t, m1 (Str.ofString "amount") = some (.int ((k - i : Nat) : Int) t)) (∃ t, m1 (Str.ofString "lpos") = some (.int ((i : Nat) : Int) t)) (i ≤ k) (i ≤ a))) k
     ⟨_, _, _, 0, rfl, rfl, F1, rfl, ⟨_, rfl⟩, ⟨_, rfl⟩, Nat.zero_le _, Nat.zero_le _⟩ (Q := fun f s' => Box (A2 (f = .next) (X3 fun h1 tk m1 => A5 (s' = { s with heap := h1, toks := tk }) (Fr g L' h1 m1) (m1 (Str.ofString "s") = some (.str x t)) (∃ t, m1 (Str.ofString "amount") = some (.int ((k - a : Nat) : Int) t)) (∃ t, m1 (Str.ofString "lpos") = some (.int ((min k a : Nat) : Int) t))))) ?turn) ?cont (fun _ _ x => x)
  case turn =>
    rintro n P hP s' ⟨h1, tk, m1, i, rfl, rfl, F2, q1, ⟨t2, q2⟩, ⟨t3, q3⟩, g1, g2⟩
    replace F2 := fr_bnd F2 [(Str.ofString "s", .str x t), (Str.ofString "amount", .int ((k - i : Nat) : Int) t2), (Str.ofString "lpos", .int ((i : Nat) : Int) t3)] (bd q1 (bd q2 (bd q3 bd0)))
    clear q1 q2 q3
    walk_at "M.g2"
    · rename_i hne
      have hki : i < k := by omega
      by_cases hia : i < a
      · refine item_strM (i := i) (c := 32) (by rw [hx]; exact padL_left hia) (by omega) fun tk' t' => ?_
        walk_at "M.g2"
        · rename_i F3
          have e1 : ((i : Nat) : Int) + 1 = ((i + 1 : Nat) : Int) := by omega
          have e2 : ((k - i : Nat) : Int) - 1 = ((k - (i + 1) : Nat) : Int) := by omega
          rw [e1, e2] at F3
          exact hP .next _ ⟨k - (i + 1), by omega, _, _, _, i + 1, rfl, rfl, F3, rfl, ⟨_, rfl⟩, ⟨_, rfl⟩, hki, hia⟩
      · have hia' : i = a := by omega
        subst hia'
        refine item_strM (i := i) (c := c) (by rw [hx]; exact padL_mid hc) (by omega) fun tk' t' => ?_
        walk_at "M.g2"
        · rename ((_ : Str) == Str.ofString " ") = true => hf
          rw [eq_blank] at hf
          exact absurd (by simpa using hf) hc2
        · have e2 : min k i = i := by omega
          refine hP .brk _ ?_
          show Box _
          rw [e2]
          exact ⟨rfl, _, _, _, rfl, F2, rfl, ⟨_, rfl⟩, ⟨_, rfl⟩⟩
    · rename_i h0
      have hki : i = k := by omega
      subst hki
      have e1 : (i - a : Nat) = i - i := by omega
      have e2 : min i a = i := by omega
      refine hP .brk _ ?_
      show Box _
      rw [e1, e2]
      exact ⟨rfl, _, _, _, rfl, F2, rfl, ⟨_, rfl⟩, ⟨_, rfl⟩⟩
  case cont =>
    rintro f s' ⟨rfl, h1, tk, m1, rfl, F2, q1, ⟨t2, q2⟩, ⟨t3, q3⟩⟩
    replace F2 := fr_bnd F2 [(Str.ofString "s", .str x t), (Str.ofString "amount", .int ((k - a : Nat) : Int) t2), (Str.ofString "lpos", .int ((min k a : Nat) : Int) t3)] (bd q1 (bd q2 (bd q3 bd0)))
    clear q1 q2 q3
    dsimp only
    walk_at "M.g2"
    rename_i F3
    have hbl : 0 < body.length := by cases body with | nil => cases hc | cons _ _ => simp
    have e3 : ((x.length : Nat) : Int) - 1 = ((a + body.length + b - 1 : Nat) : Int) := by omega
    rw [e3] at F3
    refine wpAny_mono (whileM (fun n s' => Box (X4 fun h1 tk m1 j => A8 (s' = { s with heap := h1, toks := tk }) (n = (k - a) - j) (Fr g L' h1 m1) (m1 (Str.ofString "s") = some (.str x t)) (∃ t, m1 (Str.ofString "amount") = some (.int ((k - a - j : Nat) : Int) t)) (∃ t, m1 (Str.ofString "lpos") = some (.int ((min k a : Nat) : Int) t)) (∃ t, m1 (Str.ofString "rpos") = some (.int ((a + body.length + b - 1 - j : Nat) : Int) t)) (j ≤ k - a))) (k - a)
     ⟨_, _, _, 0, rfl, rfl, F3, rfl, ⟨_, rfl⟩, ⟨_, rfl⟩, ⟨_, rfl⟩, Nat.zero_le _⟩ (Q := fun f s' => Box (A2 (f = .next) (X3 fun h1 tk m1 => A5 (s' = { s with heap := h1, toks := tk }) (Fr g L' h1 m1) (m1 (Str.ofString "s") = some (.str x t)) (∃ t, m1 (Str.ofString "lpos") = some (.int ((min k a : Nat) : Int) t)) (∃ t, m1 (Str.ofString "rpos") = some (.int ((a + body.length + b - 1 - (k - a) : Nat) : Int) t))))) ?turn) ?cont (fun _ _ x => x)
    case turn =>
      rintro n P hP s' ⟨h1, tk, m1, j, rfl, rfl, F4, q1, ⟨t2, q2⟩, ⟨t3, q3⟩, ⟨t4, q4⟩, g1⟩
      replace F4 := fr_bnd F4 [(Str.ofString "s", .str x t), (Str.ofString "amount", .int ((k - a - j : Nat) : Int) t2), (Str.ofString "lpos", .int ((min k a : Nat) : Int) t3), (Str.ofString "rpos", .int ((a + body.length + b - 1 - j : Nat) : Int) t4)] (bd q1 (bd q2 (bd q3 (bd q4 bd0))))
      clear q1 q2 q3 q4
      walk_at "M.g2"
      · rename_i hne
        have hj : j < k - a := by omega
        refine item_strM (i := a + body.length + b - 1 - j) (c := 32) (by rw [hx]; exact padL_right (by omega)) (by omega) fun tk' t' => ?_
        walk_at "M.g2"
        · rename_i F5
          have e1 : ((a + body.length + b - 1 - j : Nat) : Int) - 1 = ((a + body.length + b - 1 - (j + 1) : Nat) : Int) := by omega
          have e2 : ((k - a - j : Nat) : Int) - 1 = ((k - a - (j + 1) : Nat) : Int) := by omega
          rw [e1, e2] at F5
          exact hP .next _ ⟨k - a - (j + 1), by omega, _, _, _, j + 1, rfl, rfl, F5, rfl, ⟨_, rfl⟩, ⟨_, rfl⟩, ⟨_, rfl⟩, hj⟩
      · rename_i h0
        have hj : j = k - a := by omega
        subst hj
        exact hP .brk _ ⟨rfl, _, _, _, rfl, F4, rfl, ⟨_, rfl⟩, ⟨_, rfl⟩⟩
    case cont =>
      rintro f s' ⟨rfl, h1, tk, m1, rfl, F4, q1, ⟨t3, q3⟩, ⟨t4, q4⟩⟩
      replace F4 := fr_bnd F4 [(Str.ofString "s", .str x t), (Str.ofString "lpos", .int ((min k a : Nat) : Int) t3), (Str.ofString "rpos", .int ((a + body.length + b - 1 - (k - a) : Nat) : Int) t4)] (bd q1 (bd q3 (bd q4 bd0)))
      clear q1 q3 q4
      dsimp only
      walk_at "M.g2"
      refine slice_strN_ss (s := { s with heap := h1, toks := _ }) (news := []) F4 News.nil (fun h' t' tk' F5 _ => ?_) (hsz := by rw [sizeLine_eq]; omega)
      walk_at "M.g2"
      have e4 : ((a + body.length + b - 1 - (k - a) : Nat) : Int) + 1 = ((a + body.length + b - (k - a) : Nat) : Int) := by omega
      rw [e4]
      refine hret _ _ _ _ (ev_of hg1 F5) ?_
      rw [slice_ss _ _ _ (by omega) (by rw [hx, padL_length]; omega), hx]
      have e5 := padL_cut a body b (min k a) (k - a) (by omega) (by omega)
      rw [e5, show a - min k a = a - k by omega]
end Mine
end

/-! part G1 -/
section
open PySem PySem.W PySem.Calls PyProof.Rows
set_option maxRecDepth 100000
set_option maxHeartbeats 1000000
namespace Mine
section
variable {prog : Program} {w : World} {A : Around} {R : GenEnd} {Y : Protocol} {n : Nat} {s₀ : Shared} {c : Code} {fs : List Frame} {s : Shared} {env : Env}
  {K : Flow → Sem PySem.Fin} {H : Value → Sem PySem.Fin} {gd : Bool → Bool} {lv : List Value → List Value}

theorem segIf {test : Expr} {body orelse : List Stmt} {pos : Pos}
    (h : wpAny (model prog w) (A.over c fs) (isTrue test env (eval test env)) (fun b s' => if b = true then Seg (model prog w) A R Y n s₀ c ((execs body env).wrap K H gd lv) fs s' else Seg (model prog w) A R Y n s₀ c ((execs orelse env).wrap K H gd lv) fs s') (fun _ _ => False) s) :
    Seg (model prog w) A R Y n s₀ c ((exec (.If test body orelse pos) env).wrap K H gd lv) fs s := by
  rw [exec_If]
  refine seg_bind_wrap (wpAny_standAt ?_)
  refine seg_bind_wrap (wpAny_mono h (fun b s' hb => ?_) fun _ _ x => x.elim)
  cases b with
  | true => rw [if_pos rfl] at hb ⊢; exact hb
  | false => rw [if_neg Bool.false_ne_true] at hb ⊢; exact hb

/-- a statement that yields nothing -/
theorem segStep {st : Stmt} (h : wpAny (model prog w) (A.over c fs) (exec st env) (fun f s' => Seg (model prog w) A R Y n s₀ c (K f) fs s') (fun _ _ => False) s) :
    Seg (model prog w) A R Y n s₀ c ((exec st env).wrap K H gd lv) fs s := seg_wrap (wpAny_mono h (fun _ _ x => x) fun _ _ x => x.elim)

theorem segFor {target iter : Expr} {body : List Stmt} {pos : Pos}
    (h : wpAny (model prog w) (A.over c fs) (eval iter env) (fun x s₁ => wpAny (model prog w) (A.over c fs) (pyIter x) (fun it s₂ => ∀ (k : Result → Sem PySem.Fin) p, (∀ f, k (.ok f) = K f) →
      Seg (model prog w) A R Y n s₀ (.forLoop target it body [] env) ((model prog w).den (.forLoop target it body [] env)) (.ret k none (gd false) (lv []) c p [] :: fs) s₂) (fun _ _ => False) s₁) (fun _ _ => False) s)
    (hs : ∀ x, foldedSetIterable iter env x = pure x := by intro _; rfl) :
    Seg (model prog w) A R Y n s₀ c ((exec (.For target iter body [] pos) env).wrap K H gd lv) fs s := by
  rw [exec_For]
  refine seg_bind_wrap (wpAny_standAt ?_)
  refine seg_bind_wrap (wpAny_mono h (fun x s₁ h₁ => ?_) fun _ _ x => x.elim)
  refine seg_bind_wrap (wpAny_of_eq (hs x) ?_)
  refine seg_bind_wrap (wpAny_standAt ?_)
  refine seg_bind_wrap (wpAny_holding (wpAny_mono h₁ (fun it s₂ h₂ => ?_) fun _ _ x => x.elim))
  exact seg_call fun p => h₂ _ p fun f => rfl

noncomputable def forK (target : Expr) (it : Value) (body : List Stmt) (env : Env) : Flow → Sem PySem.Fin
  | .next => .pure (.again (.forLoop target it body [] env))
  | .cont => .pure (.again (.forLoop target it body [] env))
  | .brk => .pure (.done .next)
  | .ret v => .pure (.done (.ret v))

theorem segForTurn {target : Expr} {it : Value} {body : List Stmt} (ht : ∀ v, letOwnedTupleGo target it v = pure ())
    (h : wpAny (model prog w) (A.over (.forLoop target it body [] env) fs) (pyNext it) (fun r s₁ => match r with
      | none => Seg (model prog w) A R Y n s₀ (.block [] env) ((model prog w).den (.block [] env)) fs s₁
      | some v => wpAny (model prog w) (A.over (.forLoop target it body [] env) fs) (assign target env v) (fun _ s₂ => ∀ H', Seg (model prog w) A R Y n s₀ (.forLoop target it body [] env) ((execs body env).wrap (forK target it body env) H' id id) fs s₂) (fun _ _ => False) s₁) (fun _ _ => False) s) :
    Seg (model prog w) A R Y n s₀ (.forLoop target it body [] env) ((model prog w).den (.forLoop target it body [] env)) fs s := by
  show Seg _ A R Y n s₀ _ ((forTurn target it body [] env).onRaise (fun x => do noteFrame x env; theTreesLotGoes x)) fs s
  unfold forTurn
  rw [Sem.onRaise_eq_wrap]
  refine seg_bind_wrap (wpAny_standAt ?_)
  refine seg_bind_wrap (wpAny_onRaise (wpAny_mono h (fun r s₁ h₁ => ?_) fun _ _ x => x.elim))
  cases r with
  | none => exact seg_again rfl h₁
  | some v =>
    dsimp only at h₁ ⊢
    refine seg_bind_wrap (wpAny_of_eq (ht v) ?_)
    refine seg_bind_wrap (wpAny_mono h₁ (fun _ s₂ h₂ => ?_) fun _ _ x => x.elim)
    rw [Sem.bind_eq_wrap', Sem.wrap_wrap]
    rw [Sem.wrap_congr (execs body env) _ _ (K' := forK target it body env) (fun f => by cases f <;> rfl) (fun e => rfl)]
    exact h₂ _

theorem segBlockNil {k : Result → Sem PySem.Fin} {h' : Option Value} {g : Bool} {l : List Value} {c₁ : Code} {p₁ : Pos} {kp : List Value}
    (h : Seg (model prog w) A R Y n s₀ c₁ (k (.ok .next)) fs s) :
    Seg (model prog w) A R Y n s₀ (.block [] env) ((model prog w).den (.block [] env)) (.ret k h' g l c₁ p₁ kp :: fs) s := seg_leaf (.ok .next) h
end
end Mine
end

/-! part G2 -/
section
open PySem PySem.W PySem.Calls PyProof.Rows
set_option Elab.async false
set_option maxRecDepth 100000
set_option maxHeartbeats 8000000
namespace Mine
theorem enterG {prog : Program} {w : World} {A : Around} {s : Shared} {h₀ : Heap} {L : Addr} {m : Str → Option Value} {news : List (Addr × Obj)} {K : Frag} {p : Program} {loose : List Str} {mean : ExcName → Option Value} {mg mb : Str → Option Value}
    {Q E : Value → Shared → Prop} {name qual : Str} {params : Arguments} {body : List Stmt} {scope : Scope} {dV kV doc pm cdv ct oc : Value} {an od : Option Addr} {osl : Array (Option Value)} {f : Addr} {vs : List Value} {binds : List (Str × Value)}
    (F : Fr h₀ L s.heap m) (X₀ : K.In h₀) (N : News h₀ L s.heap news) (T : Top p loose mean mg mb h₀)
    (ho : K.lookup f = some ⟨oc, od, .func (fnOf name qual params body scope dV kV doc pm an cdv ct), osl⟩) (hcd : codeIn K cdv qual = true) (hroom : A.depth < recursionLimit)
    (hbind : BindsTo s (fnOf name qual params body scope dV kV doc pm an cdv ct) ⟨vs, []⟩ binds) (hloc : ∀ y ∈ binds, scope.names.lookup y.1 = some .local)
    (h : ∀ oL h₁ tk t1 t2, h₁.objs.size = s.heap.objs.size + 2 → (∀ k : Heap, (∀ b o, h₀.get? b = some o → k.get? b = some o) → k.get? s.heap.objs.size = some oL → Fr h₀ s.heap.objs.size k (fun y => binds.reverse.lookup y)) →
      Fr h₀ L h₁ m → News h₀ L h₁ ((s.heap.objs.size + 1, { cls := .type "generator", data := .fields #[.int s.gens.size 0, .str name t1, .str qual t2] }) :: (s.heap.objs.size, oL) :: news) →
      Q (.ref (s.heap.objs.size + 1)) { s with heap := h₁, toks := tk, gens := s.gens.push (.fresh (.func body (envOf qual scope s.heap.objs.size f cdv))) })
    (hco : scope.isCoroutine = false) (hgen : scope.isGenerator = true) (hk : scope.kind = .function)
    (hcell : ∀ x ∈ scope.names, x.2 ≠ .cell) : wpAny (model prog w) A (call (.ref f) vs) Q E s := by
  refine wpAny_call ?_
  refine codeAny_call_generator (fd := fnOf name qual params body scope dV kV doc pm an cdv ct) (body := body) hroom ((X₀.keeps F.keep) _ _ ho) rfl hco hgen rfl (codeRec_of (X₀.keeps F.keep) hcd) (hbind _ _ _ _ ?_)
  refine wpAny_newFunctionEnv hcell hloc (fun h₁ hns hsb => ⟨(T.nolimit.keeps F.keep).fresh _ hsb, ?_⟩) hk
  obtain ⟨oL, es, ep, hL, r⟩ := id hns
  have hsz : h₁.objs.size = s.heap.objs.size + 1 := by rw [hsb.1]; exact Heap.size_push ..
  have keep : ∀ b o, s.heap.get? b = some o → h₁.get? b = some o := fun b o e => hsb.extBut b o (Nat.ne_of_lt (Heap.lt_size e)) (Heap.get?_push_of_some _ e)
  have hn : h₀.get? s.heap.objs.size = none := next_is_new F
  have hLn : s.heap.objs.size ≠ L := Nat.ne_of_gt F.ns.lt
  have F1 : Fr h₀ L h₁ m := F.kept keep
  have N1 : News h₀ L h₁ ((s.heap.objs.size, oL) :: news) := fun p hp => by
    rcases List.mem_cons.mp hp with rfl | hp
    · exact ⟨hL, hLn, hn⟩
    · exact ⟨keep _ _ (N p hp).1, (N p hp).2⟩
  have N2 := N1.push F1 { cls := .type "generator", data := .fields #[.int s.gens.size 0, .str name (s.toks + binds.length), .str qual (s.toks + binds.length + 1)] }
  have e1 : h₁.objs.size = s.heap.objs.size + 1 := hsz
  have key := h oL (h₁.push { cls := .type "generator", data := .fields #[.int s.gens.size 0, .str name (s.toks + binds.length), .str qual (s.toks + binds.length + 1)] }) (s.toks + binds.length + 1 + 1) (s.toks + binds.length) (s.toks + binds.length + 1) (by rw [Heap.size_push, hsz])
    (fun k kk kL => ⟨⟨oL, es, ep, kL, r⟩, kk, Nat.le_of_lt (Nat.lt_of_le_of_lt F.above F.ns.lt)⟩) (F1.push _) (by rw [e1] at N2; exact N2)
  show Q (.ref h₁.objs.size) _
  rw [hsz]
  exact key

/-- the intervals that are told -/
noncomputable def gsq (f c l : Int) (i : Nat) : Option Int := if i = 0 then some f else if i = 1 then some c else if l = 0 then some c else if l = 127 then none else if i = 2 then some l else none
structure GS (L it : Addr) (s₀ s : Shared) : Prop where
  heap : ∀ b o, b ≠ L → b ≠ it → s₀.heap.get? b = some o → s.heap.get? b = some o
  gens : s.gens = s₀.gens
  drawn : s.drawn = s₀.drawn
  os : s.os = s₀.os
noncomputable def gY (g : Heap) (L it : Addr) (NN : Nat) (q : Nat → Option Int) : Protocol := fun k s₀ v s' kap =>
  (∃ z t, v = .int z t ∧ q (NN - 1 - k) = some z) ∧ GS L it s₀ s' ∧ ∃ oL oI, s'.heap.get? L = some oL ∧ s'.heap.get? it = some oI ∧ g.get? L = none ∧ g.get? it = none ∧
    (k ≠ 0 → ∀ s'' : Shared, (∀ b o, g.get? b = some o → s''.heap.get? b = some o) → s''.heap.get? L = some oL → s''.heap.get? it = some oI → kap (.send .none) s'')
noncomputable def gR (L it : Addr) (NN : Nat) (q : Nat → Option Int) : Nat → Shared → Shared → Prop := fun k s₀ s₁ => GS L it s₀ s₁ ∧ q (NN - k) = none

noncomputable def others (h g : Heap) (ex : List Addr) : List (Addr × Obj) := (List.range h.objs.size).filterMap fun b => if (decide (b ∈ ex) || (g.get? b).isSome) = true then none else (h.get? b).map fun o => (b, o)
theorem mem_others {h g : Heap} {ex : List Addr} {b : Addr} {o : Obj} : (b, o) ∈ others h g ex ↔ h.get? b = some o ∧ b ∉ ex ∧ g.get? b = none := by
  unfold others
  rw [List.mem_filterMap]
  constructor
  · rintro ⟨a, _, h2⟩
    split at h2
    · cases h2
    · rename_i hc
      rw [Option.map_eq_some_iff] at h2
      obtain ⟨o', h3, h4⟩ := h2
      injection h4 with h5 h6
      subst h5 h6
      simp only [Bool.or_eq_true, decide_eq_true_eq, not_or, Bool.not_eq_true, Option.isSome_eq_false_iff, Option.isNone_iff_eq_none] at hc
      exact ⟨h3, hc.1, hc.2⟩
  · rintro ⟨h1, h2, h3⟩
    refine ⟨b, List.mem_range.mpr (Heap.lt_size h1), ?_⟩
    rw [if_neg (by simp [h2, h3]), h1]; rfl
theorem news_others {h g : Heap} {L : Addr} {ex : List Addr} (hL : L ∈ ex) : News g L h (others h g ex) := by
  rintro ⟨b, o⟩ hp
  obtain ⟨h1, h2, h3⟩ := mem_others.mp hp
  exact ⟨h1, fun e => h2 ((show b = L from e) ▸ hL), h3⟩
theorem gs_of {g : Heap} {L it : Addr} {s₀ s : Shared} {m : Str → Option Value} {rest : List (Addr × Obj)} (F : Fr g L s.heap m) (hg0 : ∀ b o, g.get? b = some o → s₀.heap.get? b = some o) (N : News g L s.heap (rest ++ others s₀.heap g [L, it])) (h1 : s.gens = s₀.gens) (h2 : s.drawn = s₀.drawn) (h3 : s.os = s₀.os) : GS L it s₀ s :=
  ⟨fun b o e1 e2 e3 => by
    cases q : g.get? b with
    | none => exact (N (b, o) (List.mem_append.mpr (.inr (mem_others.mpr ⟨e3, by simp [e1, e2], q⟩)))).1
    | some o' =>
      have h4 := hg0 b o' q
      rw [e3] at h4
      rw [Option.some.inj h4]
      exact F.keep b o' q, h1, h2, h3⟩

structure ItO (o : Obj) (l : Addr) (i : Nat) : Prop where
  cls : o.cls = .type "list_iterator"
  data : o.data = .fields #[.ref l, .int i 0]
theorem next_list_led {prog : Program} {w : World} {A : Around} {E : Value → Shared → Prop} {s : Shared} {h₀ : Heap} {L it l : Addr} {m : Str → Option Value} {oI : Obj} {rest : List (Addr × Obj)} {i : Nat} {items : Array Value} {x : Value} {Q : Option Value → Shared → Prop}
    (F : Fr h₀ L s.heap m) (N : News h₀ L s.heap ((it, oI) :: rest)) (hd : ∀ p ∈ rest, p.1 ≠ it) (hit : ItO oI l i) (hl : s.heap.IsList l items) (hx : items[i]? = some x)
    (h : ∀ h' oI', Fr h₀ L h' m → News h₀ L h' ((it, oI') :: rest) → ItO oI' l (i + 1) → Q (some x) { s with heap := h' }) : wpAny (model prog w) A (pyNext (.ref it)) Q E s := by
  have z := N _ (.head _)
  refine wpAny_pyNext_list_item ⟨oI, z.1, hit.1, hit.2⟩ hl hx fun h' hit' hs' => ?_
  obtain ⟨oI', ho', r1, r2⟩ := id hit'
  exact h h' oI' (F.change hs' z.2.1 z.2.2) (news_set (pre := []) (post := rest) N (fun _ q => nomatch q) hd hs' ho') ⟨r1, r2⟩
theorem next_list_end {prog : Program} {w : World} {A : Around} {E : Value → Shared → Prop} {s : Shared} {h₀ : Heap} {L it l : Addr} {m : Str → Option Value} {oI : Obj} {rest : List (Addr × Obj)} {i : Nat} {items : Array Value} {Q : Option Value → Shared → Prop}
    (hh : A.handled = none) (F : Fr h₀ L s.heap m) (N : News h₀ L s.heap ((it, oI) :: rest)) (hd : ∀ p ∈ rest, p.1 ≠ it) (hit : ItO oI l i) (hl : s.heap.IsList l items) (hx : items[i]? = none)
    (h : ∀ h', Fr h₀ L h' m → News h₀ L h' rest → Q none { s with heap := h' }) : wpAny (model prog w) A (pyNext (.ref it)) Q E s := by
  have z := N _ (.head _)
  refine wpAny_pyNext_list_end hh ⟨oI, z.1, hit.1, hit.2⟩ hl hx fun h' he => h h' ⟨F.ns.extBut he (Ne.symm z.2.1), fun b o e => he b o (fun q => ?_) (F.keep b o e), F.above⟩ fun p hp => ?_
  · rw [q, z.2.2] at e; cases e
  · have P := N p (.tail _ hp)
    exact ⟨he _ _ (hd p hp) P.1, P.2⟩

theorem fuel_ind (C : Shared → Shared → Prop) (P : Nat → Shared → Shared → Prop) (step : ∀ mm, mm ≤ 17 → (∀ s₀ st, C s₀ st → mm ≠ 0 → P mm s₀ st) → ∀ s₀ st, C s₀ st → P (mm + 1) s₀ st) :
    ∀ mm, mm ≤ 17 → ∀ s₀ st, C s₀ st → P (mm + 1) s₀ st
  | 0, h => step 0 h fun _ _ _ e => absurd rfl e
  | mm + 1, h => step (mm + 1) h fun s₀ st hC _ => fuel_ind C P step mm (Nat.le_of_succ_le h) s₀ st hC

theorem gi_call {w : World} {mean : ExcName → Option Value} {mg mb : Str → Option Value} {A : Around} {s : Shared} {h₀ : Heap} {L : Addr} {m : Str → Option Value} {news : List (Addr × Obj)}
    {S : Addr} {f c l : Int} {t0 t1 t2 : Tok} {n : Nat} {Q E : Value → Shared → Prop} (hA' : A.in1.handled = none)
    (F : Fr h₀ L s.heap m) (X : (hd.heap_39 w.params).In h₀) (N : News h₀ L s.heap news) (T : Top hd.view_39 (looseW hd.view_39 []) mean mg mb h₀) (hdp : A.depth < recursionLimit)
    (hS : h₀.get? S = some (listOf #[.int f t0, .int c t1, .int l t2] n)) (hf : 1 ≤ f ∧ f ≤ 3) (hc : 1 ≤ c ∧ c ≤ 3) (hl : l = 0 ∨ l = 127 ∨ l = 2)
    (hret : ∀ oL h₁ tk t1 t2 nm qn (gs : GenState), h₁.objs.size = s.heap.objs.size + 2 → Fr h₀ L h₁ m → News h₀ L h₁ ((s.heap.objs.size + 1, { cls := .type "generator", data := .fields #[.int s.gens.size 0, .str nm t1, .str qn t2] }) :: (s.heap.objs.size, oL) :: news) → gs.bare = true →
      (∀ s'' : Shared, s''.heap.objs.size = s.heap.objs.size + 2 → (∀ b o, h₀.get? b = some o → s''.heap.get? b = some o) → s''.heap.get? s.heap.objs.size = some oL →
        gs.Goes (model Challenge.rw_oc0024_01.row.prog w) A.in1 (fun k s₀ r s₁ => r = .ok (.ret .none) ∧ gR s.heap.objs.size (s.heap.objs.size + 2) 20 (gsq f c l) k s₀ s₁) (gY h₀ s.heap.objs.size (s.heap.objs.size + 2) 20 (gsq f c l)) 20 (.send .none) s'') →
      Q (.ref (s.heap.objs.size + 1)) { s with heap := h₁, toks := tk, gens := s.gens.push gs }) :
    wpAny (model Challenge.rw_oc0024_01.row.prog w) A (call (.ref 21) [.ref S]) Q E s := by
  revert X; k_fill; intro X
  k_dflt (refine' enterG (binds := [(Str.ofString "grouping", .ref S)]) ?k2 ?k3 ?k4 ?k5 ?k6 ?k7 ?k8 ?k9 ?kB ?_ ?c2 ?c3 ?c4 ?c5; (case k8 => exact hdp); (case k2 => k_asm); (case k3 => k_asm); (case k4 => k_asm); (case k5 => k_asm); (case k6 => k_is); (case k7 => k_is); (case k9 => exact BindsTo.of_eq rfl); (case c5 => decide); (case kB => exact locs rfl); (case c2 => exact rfl); (case c3 => exact rfl); (case c4 => exact rfl))
  intro oL h₁ tk u1 u2 hsz FK F1 N1
  refine hret oL h₁ tk u1 u2 _ _ _ hsz F1 N1 rfl ?_
  generalize s.heap.objs.size = Lg at *
  intro s1 hsz1 hk1 hL1
  refine ⟨rfl, seg_func ?_⟩
  have F2 := FK s1.heap hk1 hL1
  have N2 : News h₀ Lg s1.heap (others s1.heap h₀ [Lg, Lg + 2]) := news_others (by simp)
  refine seg_execs_cons (segStep ?_)
  refine wpAny_Assign_Name ?_
  walk1
  refine wpAny_storeName_local rfl F2.ns fun h2 hn2 hs2 => ?_
  have F3 := F2.set hn2 hs2
  have N3 := N2.set hs2
  have hsz2 : h2.objs.size = Lg + 2 := by rw [hs2.1]; exact hsz1
  dsimp only
  clear F2 N2 hn2 hs2 FK
  refine seg_execs_cons (segFor ?_)
  walk_at "M.g2"
  have hSl : h2.IsList S #[.int f t0, .int c t1, .int l t2] := PySem.IsL.isList (n := n) (F3.keep _ _ hS)
  refine wpAny_pyIter_list hSl ?_
  intro k p hk
  have F4 := F3.push { cls := .type "list_iterator", data := .fields #[.ref S, .int 0 0] }
  have N4 := N3.push F3 { cls := .type "list_iterator", data := .fields #[.ref S, .int 0 0] }
  dsimp only at N4 ⊢
  rw [hsz2] at N4 ⊢
  have hI4 : ItO { cls := .type "list_iterator", data := .fields #[.ref S, .int 0 0] } S 0 := ⟨rfl, rfl⟩
  generalize ({ cls := .type "list_iterator", data := .fields #[.ref S, .int 0 0] } : Obj) = oI3 at *
  generalize h2.push oI3 = h3 at *
  have hoff : ∀ h : Heap, ∀ p ∈ others h h₀ [Lg, Lg + 2], p.1 ≠ Lg + 2 := by
    rintro h ⟨b, o⟩ hp e
    obtain ⟨_, q, _⟩ := mem_others.mp hp
    exact q (by simp [show b = Lg + 2 from e])
  have hn1 : h₀.get? Lg = none := by
    cases q : h₀.get? Lg with
    | none => rfl
    | some o => exact absurd (Heap.lt_size q) (Nat.not_lt.mpr F4.above)
  have hn2 : h₀.get? (Lg + 2) = none := (N4 _ (.head _)).2.2
  refine segForTurn (fun _ => rfl) ?_
  refine next_list_led F4 N4 (hoff _) hI4 (PySem.IsL.isList (n := n) (F4.keep _ _ hS)) (x := .int f t0) rfl ?_
  intro h4 oI4 F5 N5 hI5
  dsimp only
  walk_at "M.g2"
  refine seg_execs_cons (segIf ?_)
  walk_at "M.g2"
  · exfalso; omega
  refine seg_execs_nil ?_
  dsimp only
  refine seg_execs_cons (segIf ?_)
  walk_at "M.g2"
  · exfalso; omega
  refine seg_execs_nil ?_
  dsimp only
  refine seg_execs_cons (seg_Expr_Yield rfl rfl rfl ?_)
  walk_at "M.g2"
  rename_i kap hkap
  (with_reducible rename Fr _ _ _ _ => F6)
  (with_reducible rename News _ _ _ _ => N6)
  obtain ⟨oL6, es6, ep6, hL6, r6⟩ := id F6.ns
  refine ⟨⟨f, t0, rfl, rfl⟩, gs_of (rest := [(Lg + 2, oI4)]) F6 hk1 N6 rfl rfl rfl, oL6, oI4, hL6, (N6 _ (.head _)).1, hn1, hn2, fun _ s2 hk2 hL2 hI2 => hkap .none s2 ?_⟩
  dsimp only
  -- the second turn
  have F7 : Fr h₀ Lg s2.heap _ := ⟨⟨oL6, es6, ep6, hL2, r6⟩, hk2, F6.above⟩
  have N7 : News h₀ Lg s2.heap ((Lg + 2, oI4) :: others s2.heap h₀ [Lg, Lg + 2]) := fun p hp => by
    rcases List.mem_cons.mp hp with rfl | hp
    · exact ⟨hI2, by simp, hn2⟩
    · exact news_others (by simp) p hp
  clear F6 N6 hL6 hkap
  refine seg_execs_cons (segStep ?_)
  walk_at "M.g2"
  refine seg_execs_nil ?_
  refine seg_again rfl ?_
  (with_reducible rename Fr _ _ _ _ => F8)
  (with_reducible rename News _ _ _ _ => N8)
  refine segForTurn (fun _ => rfl) ?_
  refine next_list_led F8 N8 (hoff _) hI5 (PySem.IsL.isList (n := n) (F8.keep _ _ hS)) (x := .int c t1) rfl ?_
  intro h6 oI6 F9 N9 hI9
  dsimp only
  walk_at "M.g2"
  refine seg_execs_cons (segIf ?_)
  walk_at "M.g2"
  · exfalso; omega
  refine seg_execs_nil ?_
  dsimp only
  refine seg_execs_cons (segIf ?_)
  walk_at "M.g2"
  · exfalso; omega
  refine seg_execs_nil ?_
  dsimp only
  refine seg_execs_cons (seg_Expr_Yield rfl rfl rfl ?_)
  walk_at "M.g2"
  rename_i kap hkap
  (with_reducible rename Fr _ _ _ _ => F6)
  (with_reducible rename News _ _ _ _ => N6)
  obtain ⟨oL9, es9, ep9, hL9, r9⟩ := id F6.ns
  refine ⟨⟨c, t1, rfl, rfl⟩, gs_of (rest := [(Lg + 2, oI6)]) F6 hk2 N6 rfl rfl rfl, oL9, oI6, hL9, (N6 _ (.head _)).1, hn1, hn2, fun _ s3 hk3 hL3 hI3 => hkap .none s3 ?_⟩
  dsimp only
  -- the third turn
  have F10 : Fr h₀ Lg s3.heap _ := ⟨⟨oL9, es9, ep9, hL3, r9⟩, hk3, F6.above⟩
  have N10 : News h₀ Lg s3.heap ((Lg + 2, oI6) :: others s3.heap h₀ [Lg, Lg + 2]) := fun p hp => by
    rcases List.mem_cons.mp hp with rfl | hp
    · exact ⟨hI3, by simp, hn2⟩
    · exact news_others (by simp) p hp
  clear F6 N6 hL9 hkap
  refine seg_execs_cons (segStep ?_)
  walk_at "M.g2"
  refine seg_execs_nil ?_
  refine seg_again rfl ?_
  (with_reducible rename Fr _ _ _ _ => F11)
  (with_reducible rename News _ _ _ _ => N11)
  refine segForTurn (fun _ => rfl) ?_
  refine next_list_led F11 N11 (hoff _) hI9 (PySem.IsL.isList (n := n) (F11.keep _ _ hS)) (x := .int l t2) rfl ?_
  intro h10 oI10 F12 N12 hI12
  dsimp only
  walk_at "M.g2"
  refine seg_execs_cons (segIf ?_)
  walk_at "M.g2"
  · rename_i e127
    (with_reducible rename Fr _ _ _ _ => F13)
    (with_reducible rename News _ _ _ _ => N13)
    refine seg_execs_cons (segStep (wpAny_Return_none ?_))
    dsimp only [forK]
    refine seg_leaf (.ok (.ret .none)) ?_
    rw [hk]
    refine seg_end (.ok (.ret .none)) ⟨rfl, gs_of (rest := [(Lg + 2, oI10)]) F13 hk3 N13 rfl rfl rfl, ?_⟩
    rw [e127]; rfl
  rename_i ne127
  refine seg_execs_nil ?_
  dsimp only
  refine seg_execs_cons (segIf ?_)
  walk_at "M.g2"
  · rename_i e0
    refine seg_execs_cons (segIf ?_)
    walk_at "M.g2"
    refine seg_execs_nil ?_
    dsimp only
    refine seg_execs_cons (seg_While ?_)
    intro p2
    (with_reducible rename Fr _ _ _ _ => F13)
    (with_reducible rename News _ _ _ _ => N13)
    refine fuel_ind (fun s₀ st => (∀ b o, h₀.get? b = some o → s₀.heap.get? b = some o) ∧ st.gens = s₀.gens ∧ st.drawn = s₀.drawn ∧ st.os = s₀.os ∧ (∃ mp, Fr h₀ Lg st.heap mp ∧ mp (Str.ofString "last_interval") = some (.int c t1)) ∧ News h₀ Lg st.heap ((Lg + 2, oI10) :: others s₀.heap h₀ [Lg, Lg + 2]))
      (fun nn s₀ st => Seg _ _ _ _ nn s₀ _ _ _ st) ?step 17 (Nat.le_refl _) s3 _ ⟨hk3, rfl, rfl, rfl, ⟨_, F13, rfl⟩, N13⟩
    rintro mm hmm ih s₀ st ⟨hk4, e1, e2, e3, ⟨mp, F14, hmp⟩, N14⟩
    replace F14 := fr_bnd F14 [(Str.ofString "last_interval", .int c t1)] (by simp only [List.forall_mem_cons, hmp, true_and]; exact List.forall_mem_nil _)
    clear F13 N13
    dsimp only
    refine seg_whileLoop ?_
    walk_at "M.g2"
    refine seg_execs_cons (seg_Expr_Yield rfl rfl rfl ?_)
    walk_at "M.g2"
    rename_i kap hkap
    (with_reducible rename Fr _ _ _ _ => F6)
    (with_reducible rename News _ _ _ _ => N6)
    obtain ⟨oL13, es13, ep13, hL13, r13⟩ := id F6.ns
    refine ⟨⟨c, t1, rfl, ?_⟩, gs_of (rest := [(Lg + 2, oI10)]) F6 hk4 N6 e1 e2 e3, oL13, oI10, hL13, (N6 _ (.head _)).1, hn1, hn2, fun hm0 s4 hk5 hL4 hI4' => hkap .none s4 ?_⟩
    · unfold gsq
      rw [if_neg (by omega), e0, if_pos rfl]; split <;> rfl
    · dsimp only
      refine seg_execs_nil ?_
      refine seg_again rfl ?_
      refine ih s4 s4 ⟨hk5, rfl, rfl, rfl, ⟨_, ⟨⟨oL13, es13, ep13, hL4, r13⟩, hk5, F6.above⟩, rfl⟩, ?_⟩ hm0
      intro p hp
      rcases List.mem_cons.mp hp with rfl | hp
      · exact ⟨hI4', by simp, hn2⟩
      · exact news_others (by simp) p hp
  · rename_i ne0
    have e2 : l = 2 := by omega
    refine seg_execs_nil ?_
    dsimp only
    refine seg_execs_cons (seg_Expr_Yield rfl rfl rfl ?_)
    walk_at "M.g2"
    rename_i kap hkap
    (with_reducible rename Fr _ _ _ _ => F6)
    (with_reducible rename News _ _ _ _ => N6)
    obtain ⟨oL13, es13, ep13, hL13, r13⟩ := id F6.ns
    refine ⟨⟨l, t2, rfl, by rw [e2]; rfl⟩, gs_of (rest := [(Lg + 2, oI10)]) F6 hk3 N6 rfl rfl rfl, oL13, oI10, hL13, (N6 _ (.head _)).1, hn1, hn2, fun _ s4 hk4 hL4 hI4' => hkap .none s4 ?_⟩
    dsimp only
    have F14 : Fr h₀ Lg s4.heap _ := ⟨⟨oL13, es13, ep13, hL4, r13⟩, hk4, F6.above⟩
    have N14 : News h₀ Lg s4.heap ((Lg + 2, oI10) :: others s4.heap h₀ [Lg, Lg + 2]) := fun p hp => by
      rcases List.mem_cons.mp hp with rfl | hp
      · exact ⟨hI4', by simp, hn2⟩
      · exact news_others (by simp) p hp
    clear F6 N6 hL13 hkap
    refine seg_execs_cons (segStep ?_)
    walk_at "M.g2"
    refine seg_execs_nil ?_
    refine seg_again rfl ?_
    (with_reducible rename Fr _ _ _ _ => F15)
    (with_reducible rename News _ _ _ _ => N15)
    refine segForTurn (fun _ => rfl) ?_
    refine next_list_end hA' F15 N15 (hoff _) hI12 (PySem.IsL.isList (n := n) (F15.keep _ _ hS)) rfl ?_
    intro h16 F16 N16
    dsimp only
    refine segBlockNil ?_
    rw [hk]
    refine seg_end (.ok (.ret .none)) ⟨rfl, gs_of (rest := []) F16 hk4 N16 rfl rfl rfl, ?_⟩
    rw [e2]; rfl
end Mine
end

/-! part G3 -/
section
open PySem PySem.W PySem.Calls PyProof.Rows
set_option Elab.async false
set_option maxRecDepth 100000
set_option maxHeartbeats 2000000
namespace Mine
theorem nextGenQ {prog : Program} {w : World} {A : Around} {E : Value → Shared → Prop} {s : Shared} {a : Addr} {g n : Nat} {gs : GenState} {P : Nat → Shared → Shared → Prop} {Y : Protocol} {Q : Option Value → Shared → Prop} (hh : A.handled = none)
    (hl : s.heap.NoLimit) (hroom : A.depth < recursionLimit) (hg : s.heap.IsGen a g) (hgs : s.gens[g]? = some gs)
    (hgo : gs.Goes (model prog w) A.in1 (fun n s₀ r s₁ => r = .ok (.ret .none) ∧ P n s₀ s₁) Y n (.send .none) (s.setGen g .running))
    (hY : ∀ v s₁ gs', gs'.bare = true → Y (n - 1) (s.setGen g .running) v s₁ (fun r' s'' => match n with
        | 0 => False
        | m + 1 => gs'.Goes (model prog w) A.in1 (fun n s₀ r s₁ => r = .ok (.ret .none) ∧ P n s₀ s₁) Y m r' s'') → Q (some v) (s₁.setGen g gs'))
    (hP : ∀ s₁, P n (s.setGen g .running) s₁ → ∀ h', (∀ b o, s₁.heap.get? b = some o → h'.get? b = some o) → Q none { s₁.setGen g .finished with heap := h' }) :
    wpAny (model prog w) A (pyNext (.ref a)) Q E s := by
  unfold pyNext
  refine wpAny_bind (wpAny_attempt (wpAny_callSpecial?_slot (name := Str.ofString "__next__") hg.typeIs slot_gen_next
    (wpAny_call_entry slot_gen_next hg.typeIs entry_gen_next ?_ (args_gen_next _))))
  show wpAny _ A.in1 (Builtin.Generator.genWake (.ref a) (.send .none)) _ _ s
  unfold Builtin.Generator.genWake
  refine wpAny_bind (wpAny_holding (wpAny_genNumber hg (wpAny_bind (wpAny_genState hgs ?_))))
  cases gs with
  | running => exact hgo.elim
  | finished => exact hgo.elim
  | _ =>
    refine wpAny_bind (wpAny_roomToWake hl hroom ?_)
    show wpAny _ A.in1 (.resume g (.send .none) [] _) _ _ s
    refine wpAny_resumeQ hgs hgo (fun x s₁ hx => ?_) (fun v s₁ gs' hb hv => ?_)
    · obtain ⟨rfl, hp⟩ := hx
      show wpAny _ A.in1 (newExc (.type "StopIteration") [] >>= _) _ _ _
      refine wpAny_bind ?_
      simp only [newExc, newTuple]
      refine wpAny_bind (wpAny_newObj_type ?_ (by size_fits))
      refine wpAny_bind (m := firstArgMember _ _) (wpAny_of_eq (a := Value.none) (by first | rfl | (simp only [firstArgMember]; rfl)) ?_)
      refine wpAny_newObj_type ?_ (by size_fits)
      simp only [raiseNew]
      refine wpAny_bind (wpAny_bind (wpAny_handled ?_))
      first | rw [show A.in1.handled = none from hh] | rw [hh]
      refine wpAny_throw ?_
      refine wpAny_bind (wpAny_isInstance (T := "StopIteration") (b := true) ⟨_, Heap.get?_push_size _ rfl, rfl⟩ isSubtype_stop ?_)
      exact wpAny_pure (hP s₁ hp _ fun b o hb => Heap.get?_push_of_some _ (Heap.get?_push_of_some _ hb))
    · exact wpAny_pure ⟨v, rfl, wpAny_pure (hY v s₁ gs' hb hv)⟩

noncomputable def genObj (g : Nat) (nm qn : Str) (t1 t2 : Tok) : Obj := { cls := .type "generator", data := .fields #[.int g 0, .str nm t1, .str qn t2] }
noncomputable def ItAt (h : Heap) (Lg : Nat) : Option Obj → Prop
  | none => @Eq Nat h.objs.size (Lg + 2)
  | some o => h.get? (Lg + 2) = some o
noncomputable def GiGo (w : World) (A' : Around) (h₀ : Heap) (Lg : Nat) (q : Nat → Option Int) (i : Nat) (oL : Obj) (oI : Option Obj) (gs : GenState) : Prop :=
  ∀ s'' : Shared, (∀ b o, h₀.get? b = some o → s''.heap.get? b = some o) → s''.heap.get? Lg = some oL → ItAt s''.heap Lg oI →
    gs.Goes (model Challenge.rw_oc0024_01.row.prog w) A' (fun k s₀ r s₁ => r = .ok (.ret .none) ∧ gR Lg (Lg + 2) 20 q k s₀ s₁) (gY h₀ Lg (Lg + 2) 20 q) (20 - i) (.send .none) s''
noncomputable def itOf (Lg : Nat) : Option Obj → List (Addr × Obj)
  | none => []
  | some o => [(Lg + 2, o)]

theorem bare_set {gens : Array GenState} {g : Nat} {x : GenState} (h : AllBare gens) (hx : x.bare = true) : AllBare (gens.setIfInBounds g x) := by
  intro y hy
  rw [Array.mem_iff_getElem?] at hy
  obtain ⟨i, hi⟩ := hy
  by_cases e : g = i
  · subst e
    by_cases hlt : g < gens.size
    · rw [Array.getElem?_setIfInBounds_self_of_lt hlt] at hi
      cases hi; exact hx
    · have : (gens.setIfInBounds g x)[g]? = none := by
        rw [Array.getElem?_eq_none]; rw [Array.size_setIfInBounds]; omega
      rw [this] at hi; cases hi
  · rw [Array.getElem?_setIfInBounds_ne e] at hi
    exact h y (Array.mem_of_getElem? hi)

theorem next_gi {w : World} {A : Around} {E : Value → Shared → Prop} {s : Shared} {h₀ : Heap} {L Lg : Nat} {m : Str → Option Value} {q : Nat → Option Int} {i g : Nat} {oL : Obj} {oI : Option Obj} {gs : GenState} {nm qn : Str} {t1 t2 : Tok} {rest : List (Addr × Obj)}
    {p : Program} {loose : List Str} {mean : ExcName → Option Value} {mg mb : Str → Option Value} {Q : Option Value → Shared → Prop}
    (hh : A.handled = none) (hroom : A.depth < recursionLimit) (F : Fr h₀ L s.heap m) (T : Top p loose mean mg mb h₀)
    (N : News h₀ L s.heap (itOf Lg oI ++ (Lg + 1, genObj g nm qn t1 t2) :: (Lg, oL) :: rest)) (nd : Nd (itOf Lg oI ++ (Lg + 1, genObj g nm qn t1 t2) :: (Lg, oL) :: rest)) (hsz : oI = none → @Eq Nat s.heap.objs.size (Lg + 2))
    (hgs : s.gens[g]? = some gs) (hb : AllBare s.gens) (hi : i ≤ 15) (hgo : GiGo w A.in1 h₀ Lg q i oL oI gs)
    (hsome : ∀ z t h' tk gens' gs' oL' oI', q i = some z → Fr h₀ L h' m → News h₀ L h' (itOf Lg (some oI') ++ (Lg + 1, genObj g nm qn t1 t2) :: (Lg, oL') :: rest) → Nd (itOf Lg (some oI') ++ (Lg + 1, genObj g nm qn t1 t2) :: (Lg, oL') :: rest) →
      gens'[g]? = some gs' → AllBare gens' → GiGo w A.in1 h₀ Lg q (i + 1) oL' (some oI') gs' → Q (some (.int z t)) { s with heap := h', toks := tk, gens := gens' })
    (hnone : ∀ h' tk gens', q i = none → Fr h₀ L h' m → News h₀ L h' rest → AllBare gens' → Q none { s with heap := h', toks := tk, gens := gens' }) :
    wpAny (model Challenge.rw_oc0024_01.row.prog w) A (pyNext (.ref (Lg + 1))) Q E s := by
  have zg := N (Lg + 1, genObj g nm qn t1 t2) (List.mem_append.mpr (.inr (.head _)))
  have zL := N (Lg, oL) (List.mem_append.mpr (.inr (.tail _ (.head _))))
  have hLw : @LT.lt Nat _ L s.heap.objs.size := F.ns.lt
  have nL2 : L ≠ Lg + 2 := by
    cases oI with
    | none => have := hsz rfl; omega
    | some o => exact Ne.symm (N (Lg + 2, o) (List.mem_append.mpr (.inl (.head _)))).2.1
  have nrest : ∀ p ∈ rest, @Ne Nat p.1 Lg ∧ @Ne Nat p.1 (Lg + 1) ∧ @Ne Nat p.1 (Lg + 2) := by
    intro p hp
    have a1 := nd_post (pre := itOf Lg oI ++ [(Lg + 1, genObj g nm qn t1 t2)]) (D := Lg) (o := oL) (post := rest) (by simpa using nd) p hp
    have a2 := nd_post (pre := itOf Lg oI) nd p (.tail _ hp)
    refine ⟨a1, a2, ?_⟩
    cases oI with
    | none =>
      have := hsz rfl
      have h1 : @LT.lt Nat _ p.1 s.heap.objs.size := Heap.lt_size (N p (List.mem_append.mpr (.inr (.tail _ (.tail _ hp))))).1
      omega
    | some o => exact nd_post (pre := []) nd p (List.mem_append.mpr (.inr (.tail _ (.tail _ hp))))
  have hn3 : h₀.get? (Lg + 2) = none := by
    cases oI with
    | none => have := hsz rfl; rw [← this]; exact next_is_new F
    | some o => exact (N (Lg + 2, o) (List.mem_append.mpr (.inl (.head _)))).2.2
  have hIt : ItAt (s.setGen g .running).heap Lg oI := by
    cases oI with
    | none => exact hsz rfl
    | some o => exact (N (Lg + 2, o) (List.mem_append.mpr (.inl (.head _)))).1
  have hlg : g < s.gens.size := (Array.getElem?_eq_some_iff.mp hgs).1
  refine nextGenQ (g := g) (n := 20 - i) (P := gR Lg (Lg + 2) 20 q) (Y := gY h₀ Lg (Lg + 2) 20 q) hh (T.nolimit.keeps F.keep) hroom ⟨_, _, _, zg.1, rfl, rfl, rfl⟩ hgs (hgo _ F.keep zL.1 hIt) ?_ ?_
  · rintro v s₁ gs' hb' ⟨⟨z, t, rfl, hz⟩, G, oL', oI', hL', hI', hn1, hn2, hk⟩
    obtain ⟨hp1, tk1, rfl⟩ : ∃ h1 tk1, s₁ = { s with heap := h1, toks := tk1, gens := s.gens.setIfInBounds g .running } := by
      obtain ⟨hh1, gg1, dd1, tt1, oo1⟩ := s₁
      have e1 := G.gens; have e2 := G.drawn; have e3 := G.os
      dsimp only [Shared.setGen] at e1 e2 e3
      subst e1 e2 e3
      exact ⟨_, _, rfl⟩
    have hz' : q i = some z := by
      rw [← hz]; congr 1; omega
    have Gh : ∀ b o, b ≠ Lg → b ≠ Lg + 2 → s.heap.get? b = some o → hp1.get? b = some o := G.heap
    refine hsome z t hp1 tk1 _ gs' oL' oI' hz' ?_ ?_ ?_ ?_ ?_ ?_
    · obtain ⟨oLL, es, ep, hLL, r⟩ := F.ns
      refine ⟨⟨oLL, es, ep, Gh _ _ (Ne.symm zL.2.1) nL2 hLL, r⟩, fun b o e => Gh b o (fun x => ?_) (fun x => ?_) (F.keep b o e), F.above⟩
      · rw [x, hn1] at e; cases e
      · rw [x, hn2] at e; cases e
    · intro p hp
      simp only [itOf, List.cons_append, List.nil_append, List.mem_cons] at hp
      rcases hp with rfl | rfl | rfl | hp
      · exact ⟨hI', Ne.symm nL2, hn2⟩
      · exact ⟨Gh _ _ (by simp) (by simp) zg.1, zg.2⟩
      · exact ⟨hL', zL.2.1, hn1⟩
      · have P := N p (List.mem_append.mpr (.inr (.tail _ (.tail _ hp))))
        exact ⟨Gh _ _ (nrest p hp).1 (nrest p hp).2.2 P.1, P.2⟩
    · have hr : (rest.map fun (x : Addr × Obj) => x.1).Nodup := nd_sub nd (by
        refine List.Sublist.trans ?_ (List.sublist_append_right _ _)
        exact List.Sublist.cons _ (List.Sublist.cons _ (List.Sublist.refl _)))
      simp only [Nd, itOf, List.cons_append, List.nil_append, List.map_cons, List.nodup_cons, List.mem_cons, not_or]
      have n1 : ¬ @Eq Nat (Lg + 2) (Lg + 1) := by omega
      have n2 : ¬ @Eq Nat (Lg + 2) Lg := by omega
      have n3 : ¬ @Eq Nat (Lg + 1) Lg := by omega
      refine ⟨⟨n1, n2, fun x => ?_⟩, ⟨n3, fun x => ?_⟩, fun x => ?_, hr⟩
      · obtain ⟨p, hp, e⟩ := List.mem_map.mp x; exact (nrest p hp).2.2 e
      · obtain ⟨p, hp, e⟩ := List.mem_map.mp x; exact (nrest p hp).2.1 e
      · obtain ⟨p, hp, e⟩ := List.mem_map.mp x; exact (nrest p hp).1 e
    · show ((s.gens.setIfInBounds g .running).setIfInBounds g gs')[g]? = some gs'
      rw [Array.getElem?_setIfInBounds_self_of_lt (by rw [Array.size_setIfInBounds]; exact hlg)]
    · exact bare_set (bare_set hb rfl) hb'
    · intro s2 hk2 hL2 hI2
      have := hk (by omega) s2 hk2 hL2 hI2
      rw [show 20 - i = (20 - (i + 1)) + 1 by omega] at this
      exact this
  · rintro s₁ ⟨G, hz⟩ h' hk'
    obtain ⟨hp1, tk1, rfl⟩ : ∃ h1 tk1, s₁ = { s with heap := h1, toks := tk1, gens := s.gens.setIfInBounds g .running } := by
      obtain ⟨hh1, gg1, dd1, tt1, oo1⟩ := s₁
      have e1 := G.gens; have e2 := G.drawn; have e3 := G.os
      dsimp only [Shared.setGen] at e1 e2 e3
      subst e1 e2 e3
      exact ⟨_, _, rfl⟩
    have hz' : q i = none := by rw [← hz]; congr 1; omega
    have Gh : ∀ b o, b ≠ Lg → b ≠ Lg + 2 → s.heap.get? b = some o → h'.get? b = some o := fun b o a1 a2 e => hk' b o (G.heap b o a1 a2 e)
    refine hnone h' tk1 _ hz' ?_ (fun p hp => ?_) (bare_set (bare_set hb rfl) rfl)
    · obtain ⟨oLL, es, ep, hLL, r⟩ := F.ns
      refine ⟨⟨oLL, es, ep, Gh _ _ (Ne.symm zL.2.1) nL2 hLL, r⟩, fun b o e => Gh b o (fun x => ?_) (fun x => ?_) (F.keep b o e), F.above⟩
      · rw [x, zL.2.2] at e; cases e
      · rw [x, hn3] at e; cases e
    · have P := N p (List.mem_append.mpr (.inr (.tail _ (.tail _ hp))))
      exact ⟨Gh _ _ (nrest p hp).1 (nrest p hp).2.2 P.1, P.2⟩
end Mine
end

/-! part LP -/
section
open PySem PySem.W PySem.Calls PyProof.Rows
set_option Elab.async false
set_option maxRecDepth 100000
set_option maxHeartbeats 8000000
namespace Mine

section
variable {prog : Program} {w : World} {A : Around} {E : Value → Shared → Prop} {s : Shared} {h₀ : Heap} {L : Addr} {m : Str → Option Value} {news : List (Addr × Obj)}
theorem append_led {D : Addr} {pre post : List (Addr × Obj)} {vs : List Value} {n : Nat} {v : Value} {Q : Value → Shared → Prop} (F : Fr h₀ L s.heap m) (N : News h₀ L s.heap (pre ++ (D, listOf vs.toArray n) :: post)) (nd : Nd (pre ++ (D, listOf vs.toArray n) :: post)) (hv : vs.length ≤ 10000)
    (h : ∀ h', Fr h₀ L h' m → News h₀ L h' (pre ++ (D, listOf (vs ++ [v]).toArray (n + 1)) :: post) → Nd (pre ++ (D, listOf (vs ++ [v]).toArray (n + 1)) :: post) → Q .none { s with heap := h' }) :
    wpAny (model prog w) A (call (.builtin "list.append") [.ref D, v]) Q E s := by
  have z := N (D, listOf vs.toArray n) (List.mem_append.mpr (.inr (.head _)))
  refine append_at (hsz := by rw [List.size_toArray, sizeLine_eq]; omega) z.1 fun h' hs ho' => h h' (F.change hs z.2.1 z.2.2) (news_set N (nd_pre nd) (nd_post nd) hs ?_) (nd_set nd)
  rw [ho']; simp
theorem newList_led {vs : List Value} {Q : Value → Shared → Prop} (F : Fr h₀ L s.heap m) (N : News h₀ L s.heap news) (nd : Nd news) (hv : vs.length ≤ 10000)
    (h : ∀ l h', Fr h₀ L h' m → News h₀ L h' ((l, listOf vs.toArray 0) :: news) → Nd ((l, listOf vs.toArray 0) :: news) → Q (.ref l) { s with heap := h' }) : wpAny (model prog w) A (newList vs) Q E s :=
  newList_N F N (fun h' F' N' => h _ h' F' N' (nd_push N nd)) (by rw [sizeLine_eq]; omega)
end

noncomputable def cutGo (q : Nat → Option Int) : Nat → Nat → List Nat → List (List Nat) → List (List Nat)
  | 0, _, _, gs => gs
  | fuel + 1, i, ds, gs => match q i with
    | none => if ds = [] then gs else gs ++ [ds]
    | some z => if ds = [] then gs else cutGo q fuel (i + 1) (ds.take (ds.length - z.toNat)) (gs ++ [ds.drop (ds.length - z.toNat)])
noncomputable def joinL (sep : List Nat) : List (List Nat) → List Nat
  | [] => []
  | [x] => x
  | x :: y :: r => x ++ sep ++ joinL sep (y :: r)
noncomputable def partL (f c l : Int) (ds : List Nat) : List Nat := joinL [44] (cutGo (gsq f c l) 20 0 ds []).reverse
theorem join_cps (sep : Str) : ∀ ys : List Str, (Str.join sep ys).cps.toList = joinL sep.cps.toList (ys.map (·.cps.toList))
  | [] => rfl
  | [x] => rfl
  | x :: y :: r => by
    show (x ++ sep ++ Str.join sep (y :: r)).cps.toList = _
    have ih := join_cps sep (y :: r)
    simp only [List.map_cons, joinL] at ih ⊢
    rw [← ih]
    show (x.cps ++ sep.cps ++ (Str.join sep (y :: r)).cps).toList = _
    simp
theorem strsAre_snoc {vs : List Value} {ys : List Str} (h : StrsAre vs ys) (y : Str) (t : Tok) : StrsAre (vs ++ [.str y t]) (ys ++ [y]) := by
  induction h with
  | nil => exact .cons y t .nil
  | cons x u _ ih => exact .cons x u ih
theorem strsAre_reverse {vs : List Value} {ys : List Str} (h : StrsAre vs ys) : StrsAre vs.reverse ys.reverse := by
  induction h with
  | nil => exact .nil
  | cons x u _ ih => rw [List.reverse_cons, List.reverse_cons]; exact strsAre_snoc ih x u
theorem strsAre_length {vs : List Value} {ys : List Str} (h : StrsAre vs ys) : vs.length = ys.length := by
  induction h with
  | nil => rfl
  | cons x u _ ih => rw [List.length_cons, List.length_cons, ih]
theorem gsq_pos {f c l : Int} (hf : 1 ≤ f ∧ f ≤ 3) (hc : 1 ≤ c ∧ c ≤ 3) (hl : l = 0 ∨ l = 127 ∨ l = 2) {i : Nat} {z : Int} (h : gsq f c l i = some z) : 1 ≤ z ∧ z ≤ 3 := by
  unfold gsq at h
  repeat' split at h
  all_goals first | (cases h; omega) | cases h
theorem eq_empty (x : Str) : (x == Str.ofString "") = decide (x.cps.toList = []) := by
  have e : Str.ofString "" = ⟨#[]⟩ := by decide
  rw [e]
  obtain ⟨a⟩ := x
  by_cases h : a = #[]
  · subst h; rfl
  · have h1 : ((⟨a⟩ : Str) == ⟨#[]⟩) = false := by rw [beq_eq_false_iff_ne]; intro q; injection q with q; exact h q
    rw [h1]
    symm
    rw [decide_eq_false_iff_not]
    intro q
    exact h (by simpa using q)

theorem sum_len_le : ∀ (ys : List Str), (∀ y ∈ ys, y.cps.toList.length ≤ 10) → (ys.map (·.length)).sum ≤ 10 * ys.length
  | [], _ => by simp
  | y :: r, h => by
    have h1 := sum_len_le r fun z hz => h z (.tail _ hz)
    have h2 := h y (.head _)
    have h3 : y.length = y.cps.toList.length := by simp [Str.length]
    simp only [List.map_cons, List.sum_cons, List.length_cons]
    omega
theorem lp_spec {w : World} {mean : ExcName → Option Value} {mg mb : Str → Option Value} {dp un : Nat} {gd : Option (List Code)} {fr : Option (List Env)} {s : Shared} {h₀ : Heap} {L : Addr} {m : Str → Option Value}
    {x : Str} {t : Tok} {ds : List Nat} {S : Addr} {f c l : Int} {t0 t1 t2 : Tok} {n : Nat} {Q E : Value → Shared → Prop}
    (F : Fr h₀ L s.heap m) (X : (hd.heap_39 w.params).In h₀) (T : Top hd.view_39 (looseW hd.view_39 []) mean mg mb h₀) (hdp : dp ≤ 680) (hun : un ≤ 80)
    (hS : s.heap.get? S = some (listOf #[.int f t0, .int c t1, .int l t2] n)) (hf : 1 ≤ f ∧ f ≤ 3) (hc : 1 ≤ c ∧ c ≤ 3) (hl : l = 0 ∨ l = 127 ∨ l = 2)
    (hx : x.cps.toList = ds) (hd1 : ds.length ≤ 8) (hb : AllBare s.gens)
    (hret : ∀ h' tk t' y gens', Ev [] s.heap h' → AllBare gens' → y.cps.toList = partL f c l ds → Q (.str y t') { s with heap := h', toks := tk, gens := gens' }) :
    wpAny (model Challenge.rw_oc0024_01.row.prog w) (ar dp un gd fr) (call (.ref 77) [.str x t, .ref S]) Q E s := by
  have N : News h₀ L s.heap [] := News.nil
  revert X; k_fill; intro X
  k_dflt (refine' enterM (binds := [(Str.ofString "figures", .str x t), (Str.ofString "sizes", .ref S)]) ?k2 ?k3 ?k4 ?k5 ?k6 ?k7 ?k8 ?k9 ?kB ?_ ?c2 ?c3 ?c4 ?c5; walk_at "M.enter")
  intro g L' h' hg1 hg2 F' N' X' T'
  (try dsimp only)
  k_fold
  have hSg : g.get? S = some (listOf #[.int f t0, .int c t1, .int l t2] n) := hg1 _ _ hS (by simp)
  walk_at "M.g3"
  refine newList_led F' N' (by simp [Nd]) (Nat.le_of_ble_eq_true rfl) ?_
  intro G h1 F1 N1 nd1
  walk_at "M.g3"
  rename_i hA2 F2 N2
  refine wpAny_mono (forM (Q := fun fl s' => Box (A2 (fl = .next) (X8 fun h1 tk m1 gens1 x1 vs ys n1 => A11 (s' = { s with heap := h1, toks := tk, gens := gens1 }) (Fr g L' h1 m1) (m1 (Str.ofString "groups") = some (.ref G)) (∃ t, m1 (Str.ofString "figures") = some (.str x1 t)) (News g L' h1 [(G, listOf vs.toArray n1)]) (AllBare gens1) (StrsAre vs ys) (ys.length ≤ 10) (x1.cps.toList.length ≤ 10) (∀ y ∈ ys, y.cps.toList.length ≤ 10) ((if x1.cps.toList = [] then ys.map (·.cps.toList) else ys.map (·.cps.toList) ++ [x1.cps.toList]) = cutGo (gsq f c l) 20 0 ds [])))) ?iter) ?cont (fun _ _ x => x)
  case iter =>
    walk_at "M.g3"
    refine gi_call (A := Around.deeper _ _) rfl F2 X' N2 T' (by ktr_room) hSg hf hc hl ?_
    intro oL h3 tk3 u1 u2 nm qn gs hsz3 F3 N3 hbg hgo
    dsimp only at hsz3 N3 hgo ⊢
    have hG : @LT.lt Nat _ G hA2.objs.size := Heap.lt_size (N2 _ (.head _)).1
    generalize hA2.objs.size = Lg at hsz3 N3 hgo hG ⊢
    have nd3 : Nd ((Lg + 1, genObj s.gens.size nm qn u1 u2) :: (Lg, oL) :: [(G, listOf (List.toArray []) 0)]) := by
      have n1 : ¬ @Eq Nat (Lg + 1) Lg := by omega
      have n2 : ¬ @Eq Nat (Lg + 1) G := by omega
      have n3 : ¬ @Eq Nat Lg G := by omega
      simp only [Nd, List.map_cons, List.map_nil, List.nodup_cons, List.mem_cons, List.not_mem_nil, or_false, not_or, not_false_eq_true, List.nodup_nil, and_true]
      exact ⟨⟨n1, n2⟩, n3⟩
    refine wpAny_pyIter_gen (g := s.gens.size) ⟨_, _, _, (N3 _ (.head _)).1, rfl, rfl, rfl⟩ ?_
    refine ⟨fun k s' => Box (X12 fun (h1 : Heap) (tk : Nat) (m1 : Str → Option Value) (gens1 : Array GenState) (gs1 : GenState) (oL : Obj) (oI : Option Obj) (i : Nat) (x1 : Str) (vs : List Value) (ys : List Str) (n1 : Nat) => A16 (s' = { s with heap := h1, toks := tk, gens := gens1 }) (k = 15 - i) (Fr g L' h1 m1) (m1 (Str.ofString "groups") = some (.ref G)) (∃ t, m1 (Str.ofString "figures") = some (.str x1 t)) (News g L' h1 (itOf Lg oI ++ (Lg + 1, genObj s.gens.size nm qn u1 u2) :: (Lg, oL) :: [(G, listOf vs.toArray n1)])) (Nd (itOf Lg oI ++ (Lg + 1, genObj s.gens.size nm qn u1 u2) :: (Lg, oL) :: [(G, listOf vs.toArray n1)])) (oI = none → @Eq Nat h1.objs.size (Lg + 2)) (gens1[s.gens.size]? = some gs1) (AllBare gens1) (GiGo w _ g Lg (gsq f c l) i oL oI gs1) (StrsAre vs ys) (ys.length ≤ i) (i + x1.cps.toList.length ≤ 9) (∀ y ∈ ys, y.cps.toList.length ≤ 10) (cutGo (gsq f c l) (20 - i) i x1.cps.toList (ys.map (·.cps.toList)) = cutGo (gsq f c l) 20 0 ds [])), 15,
      ⟨_, _, _, _, gs, oL, none, 0, x, [], [], 0, rfl, rfl, F3, rfl, ⟨_, rfl⟩, N3, nd3, fun _ => hsz3, Array.getElem?_push_size .., hb.push hbg, fun s'' a1 a2 a3 => hgo s'' a3 a1 a2, .nil, Nat.le_refl _, by rw [hx]; omega, (fun _ q => nomatch q), by rw [hx]; rfl⟩, fun _ => rfl, ?_⟩
    rintro k P hP s' ⟨h4, tk4, m4, gens4, gs4, oL4, oI4, i, x4, vs4, ys4, n4, rfl, rfl, F4, q1, ⟨t4, q4⟩, N4, nd4, hsz4, hgs4, hb4, hgo4, hys, hyl, hil, hyb, hcut⟩
    refine next_gi rfl (by ktr_room) F4 T' N4 nd4 hsz4 hgs4 hb4 (by omega) hgo4 ?_ ?_
    · intro z tz h5 tk5 gens5 gs5 oL5 oI5 hz F5 N5 nd5 hgs5 hb5 hgo5
      replace F5 := fr_bnd F5 [(Str.ofString "groups", .ref G), (Str.ofString "figures", .str x4 t4)] (bd q1 (bd q4 bd0))
      clear q1 q4
      have hz1 := gsq_pos hf hc hl hz
      obtain ⟨zn, rfl⟩ : ∃ zn : Nat, z = zn := ⟨z.toNat, by omega⟩
      unfold ForP
      walk_at "M.g3"
      · rename_i hem
        (with_reducible rename Fr _ _ _ _ => F6)
        (with_reducible rename News _ _ _ _ => N6)
        rw [eq_empty] at hem
        have hem' : x4.cps.toList = [] := by simpa using hem
        refine hP .brk _ ⟨rfl, _, _, _, _, x4, vs4, ys4, n4, rfl, F6, rfl, ⟨_, rfl⟩, news_subS N6 (by walk_at "M.sub"), hb5, hys, by omega, by omega, hyb, ?_⟩
        rw [← hcut, show 20 - i = (19 - i) + 1 by omega]
        simp only [cutGo, hz, hem', if_true]
      · rename_i hem
        (with_reducible rename Fr _ _ _ _ => F6)
        (with_reducible rename News _ _ _ _ => N6)
        rw [eq_empty] at hem
        have hem' : ¬ x4.cps.toList = [] := by simpa using hem
        have hxs : x4.length ≤ 20 := by
          have : x4.length = x4.cps.toList.length := by simp [Str.length]
          omega
        refine slice_strN_sn (s := { s with heap := _, toks := _, gens := gens5 }) F6 N6 (fun h7 t7 tk7 F7 N7 => ?_) (hsz := by rw [sizeLine_eq]; omega)
        walk_at "M.g3"
        refine append_led (pre := itOf Lg (some oI5) ++ [(Lg + 1, genObj s.gens.size nm qn u1 u2), (Lg, oL5)]) (post := []) F7 (by simpa using N7) (by simpa using nd5) (by rw [strsAre_length hys]; omega) ?_
        intro h8 F8 N8 nd8
        walk_at "M.g3"
        refine slice_strN_ns (s := { s with heap := _, toks := _, gens := gens5 }) F8 N8 (fun h9 t9 tk9 F9 N9 => ?_) (hsz := by rw [sizeLine_eq]; omega)
        walk_at "M.g3"
        (with_reducible rename Fr _ _ _ _ => F10)
        (with_reducible rename News _ _ _ _ => N10)
        have es1 := slice_neg x4 zn (by omega)
        have es2 := slice_upto x4 zn (by omega)
        have hl0 : 0 < x4.cps.toList.length := List.length_pos_iff.mpr hem'
        refine hP .next _ ⟨15 - (i + 1), by omega, _, _, _, gens5, gs5, oL5, some oI5, i + 1, _, vs4 ++ [.str _ t7], ys4 ++ [_], _, rfl, rfl, F10, rfl, ⟨_, rfl⟩, by simpa using N10, by simpa using nd8, (fun q => nomatch q), hgs5, hb5, hgo5, strsAre_snoc hys _ t7, by simp; omega, ?_, ?_, ?_⟩
        · rw [es2, List.length_take]; omega
        · intro y hy
          rcases List.mem_append.mp hy with hy | hy
          · exact hyb y hy
          · rw [List.mem_singleton.mp hy, es1, List.length_drop]; omega
        · rw [← hcut, show 20 - i = (20 - (i + 1)) + 1 by omega]
          conv => rhs; unfold cutGo
          simp only [hz, if_neg hem', Int.toNat_natCast, es2, List.map_append, List.map_cons, List.map_nil, es1]
    · intro h5 tk5 gens5 hz F5 N5 hb5
      refine hP .brk _ ⟨rfl, _, _, _, _, x4, vs4, ys4, n4, rfl, F5, q1, ⟨_, q4⟩, N5, hb5, hys, by omega, by omega, hyb, ?_⟩
      rw [← hcut, show 20 - i = (19 - i) + 1 by omega]
      simp only [cutGo, hz]
  case cont =>
    rintro fl s' ⟨rfl, h3, tk, m1, gens1, x1, vs, ys, n1, rfl, F3, q1, ⟨t3, q3⟩, N3, hb3, hys, hyl, hxl, hyb, hfin⟩
    replace F3 := fr_bnd F3 [(Str.ofString "groups", .ref G), (Str.ofString "figures", .str x1 t3)] (bd q1 (bd q3 bd0))
    clear q1 q3
    dsimp only
    walk_at "M.g4"
    refine midQ (fun fl s' => Box (A2 (fl = .next) (X6 fun h1 tk m1 vs ys n1 => A8 (s' = { s with heap := h1, toks := tk, gens := gens1 }) (Fr g L' h1 m1) (m1 (Str.ofString "groups") = some (.ref G)) (News g L' h1 [(G, listOf vs.toArray n1)]) (StrsAre vs ys) (ys.length ≤ 11) (∀ y ∈ ys, y.cps.toList.length ≤ 10) (ys.map (·.cps.toList) = cutGo (gsq f c l) 20 0 ds [])))) ?if1 ?rest
    case if1 =>
      intro P2 hP2
      walk_at "M.g3"
      · rename_i hne
        have hne' : ¬ x1.cps.toList = [] := by
          intro q
          have := eq_empty x1
          rw [q] at this
          rw [bne, this] at hne
          exact absurd hne (by decide)
        rw [if_neg hne'] at hfin
        refine append_led (pre := []) (post := []) F3 N3 (by simp [Nd]) (by rw [strsAre_length hys]; omega) ?_
        intro h6 F6 N6 _
        walk_at "M.g3"
        refine hP2 .next _ ⟨rfl, _, _, _, _, ys ++ [x1], _, rfl, F6, rfl, N6, strsAre_snoc hys x1 t3, by simp; omega, ?_, by rw [List.map_append]; exact hfin⟩
        intro y hy
        rcases List.mem_append.mp hy with hy | hy
        · exact hyb y hy
        · rw [List.mem_singleton.mp hy]; exact hxl
      · rename_i hne
        have hne' : x1.cps.toList = [] := by
          have := eq_empty x1
          rw [bne, this] at hne
          simpa using hne
        rw [if_pos hne'] at hfin
        exact hP2 .next _ ⟨rfl, _, _, _, _, ys, _, rfl, F3, rfl, N3, hys, by omega, hyb, hfin⟩
    case rest =>
      rintro fl s' ⟨rfl, h6, tk6, m6, vs6, ys6, n6, rfl, F6, q6, N6, hys6, hyl6, hyb6, hfin6⟩
      replace F6 := fr_bnd F6 [(Str.ofString "groups", .ref G)] (bd q6 bd0)
      clear q6
      dsimp only
      walk_at "M.g3"
      refine krv_lit (s := { s with heap := h6, toks := _, gens := gens1 }) (zs := vs6.reverse) F6 N6 (PySem.IsL.isList (n := n6) (N6 _ (.head _)).1) (IsPart.int _ _) (by simp) ?_ (by with_unfolding_all rfl) (fun _ => rfl) (by rw [List.size_toArray, sizeLine_eq, strsAre_length hys6]; omega)
      intro D h7 F7 N7 _
      walk_at "M.g3"
      refine join_list (ys := ys6.reverse) (PySem.IsL.isList (n := 0) (N7 _ (.head _)).1) (by simpa using strsAre_reverse hys6) ?_ ?_
      · have h1 := sum_len_le ys6.reverse fun y hy => hyb6 y (List.mem_reverse.mp hy)
        have h2 : (Str.ofString ",").length = 1 := by decide
        rw [List.length_reverse] at h1 ⊢
        rw [h2]; omega
      · intro t' k'
        walk_at "M.g3"
        refine hret _ _ _ _ _ (ev_of hg1 F7) hb3 ?_
        show (Builtin.Str.glued _ _).cps.toList = _
        rw [StrLaws.glued_eq_join, join_cps, List.map_reverse, hfin6]
        rfl
end Mine
end

/-! part LC -/
section
open PySem PySem.W PySem.Calls PyProof.Rows
set_option Elab.async false
set_option maxRecDepth 100000
set_option maxHeartbeats 8000000
namespace Mine

noncomputable def comB (f c l p : Int) : Bool := if l = 0 then decide (p = f) || (decide (0 ≤ p - f - c) && decide ((p - f - c) % c = 0)) else decide (p = f) || (decide (p - f - c = 0) || (decide (l = 2) && decide (p - f - c = 2)))
theorem lc_spec {w : World} {mean : ExcName → Option Value} {mg mb : Str → Option Value} {dp un : Nat} {gd : Option (List Code)} {fr : Option (List Env)} {s : Shared} {h₀ : Heap} {L : Addr} {m : Str → Option Value}
    {S : Addr} {f c l p : Int} {t t0 t1 t2 : Tok} {n : Nat} {Q E : Value → Shared → Prop}
    (F : Fr h₀ L s.heap m) (X : (hd.heap_39 w.params).In h₀) (T : Top hd.view_39 (looseW hd.view_39 []) mean mg mb h₀) (hdp : dp ≤ 680) (hun : un ≤ 80)
    (hS : s.heap.get? S = some (listOf #[.int f t0, .int c t1, .int l t2] n)) (hf : 1 ≤ f ∧ f ≤ 3) (hc : 1 ≤ c ∧ c ≤ 3) (hl : l = 0 ∨ l = 127 ∨ l = 2) (hp : 0 ≤ p ∧ p ≤ 100)
    (hret : ∀ h' tk, Ev [] s.heap h' → Q (.bool (comB f c l p)) { s with heap := h', toks := tk }) :
    wpAny (model Challenge.rw_oc0024_01.row.prog w) (ar dp un gd fr) (call (.ref 89) [.int p t, .ref S]) Q E s := by
  have N : News h₀ L s.heap [] := News.nil
  revert X; k_fill; intro X
  k_dflt (refine' enterM (binds := [(Str.ofString "place", .int p t), (Str.ofString "sizes", .ref S)]) ?k2 ?k3 ?k4 ?k5 ?k6 ?k7 ?k8 ?k9 ?kB ?_ ?c2 ?c3 ?c4 ?c5; walk_at "M.enter")
  intro g L' h' hg1 hg2 F' N' X' T'
  (try dsimp only)
  k_fold
  have hSg : g.IsList S #[.int f t0, .int c t1, .int l t2] := PySem.IsL.isList (n := n) (hg1 _ _ hS (by simp))
  have hSi : IntsAre [.int f t0, .int c t1, .int l t2] [f, c, l] := .cons _ _ (.cons _ _ (.cons _ _ .nil))
  walk_at "M.g5"
  refine kun_list F' N' (PySem.IsL.isList (n := n) (F'.keep _ _ (hg1 _ _ hS (by simp)))) rfl rfl rfl (fun h2 F2 N2 => ?_)
  walk_at "M.g5"
  all_goals (have hret' : ∀ b h' tk, b = comB f c l p → Ev [] s.heap h' → Q (.bool b) { s with heap := h', toks := tk } := fun b h' tk e x => e ▸ hret h' tk x)
  all_goals (refine hret' _ _ _ ?_ (ev_of hg1 (by assumption)))
  all_goals clear hret hret' hg1 hg2 hSi
  all_goals (rw [Bool.eq_iff_iff]; unfold comB)
  all_goals (try rw [Int.fmod_eq_emod_of_nonneg _ (by omega)])
  all_goals (split <;> simp only [Bool.or_eq_true, Bool.and_eq_true, decide_eq_true_eq, beq_iff_eq] <;> omega)
end Mine
end

/-! part H3 -/
section
open PySem PySem.W PySem.Calls PyProof.Rows
set_option maxRecDepth 100000
set_option maxHeartbeats 2000000
namespace Mine
section
variable {prog : Program} {w : World} {A : Around} {E : Value → Shared → Prop} {s : Shared} {env : Env} {h₀ : Heap} {L : Addr} {m : Str → Option Value} {news : List (Addr × Obj)}
/-! a for whose iterator owns its tuples -/
noncomputable def ForPA (prog : Program) (w : World) (A : Around) (env : Env) (target : Expr) (it : Value) (body : List Stmt) (P : Flow → Shared → Prop) : Option Value → Shared → Prop
  | none, s => P .brk s
  | some v, s => wpAny (model prog w) A (letOwnedTupleGo target it v) (fun _ s₁ => wpAny (model prog w) A (assign target env v) (fun _ s₂ => wpAny (model prog w) A (execs body env) P (fun _ _ => False) s₂) (fun _ _ => False) s₁) (fun _ _ => False) s
noncomputable def ForAtA (prog : Program) (w : World) (A : Around) (env : Env) (target : Expr) (body : List Stmt) (Q : Flow → Shared → Prop) (it : Value) (s : Shared) : Prop :=
  ∃ (I : Nat → Shared → Prop) (n₀ : Nat), I n₀ s ∧ ∀ n (P : Flow → Shared → Prop), (∀ fl s', WhP I n Q fl s' → P fl s') → ∀ s', I n s' → wpAny (model prog w) A (pyNext it) (ForPA prog w A env target it body P) (fun _ _ => False) s'
theorem forMA {target iter : Expr} {body : List Stmt} {pos : Pos} {Q : Flow → Shared → Prop}
    (h : wpAny (model prog w) A (eval iter env) (fun x s₁ => wpAny (model prog w) A (pyIter x) (fun it s₂ => ForAtA prog w A env target body Q it s₂) (fun _ _ => False) s₁) (fun _ _ => False) s)
    (hs : ∀ x, foldedSetIterable iter env x = pure x := by intro _; rfl) :
    wpAny (model prog w) A (exec (.For target iter body [] pos) env) Q (fun _ _ => False) s := by
  refine wpAny_For (wpAny_mono h (fun x s₁ h₁ => wpAny_mono h₁ (fun it s₂ h₂ => ?_) fun _ _ x => x) fun _ _ x => x) hs
  obtain ⟨I, n₀, h0, turn⟩ := h₂
  refine codeAny_forLoop_any I ?_ n₀ h0
  intro n s' hI
  refine wpAny_mono (turn n _ (fun _ _ x => x) s' hI) (fun r s₁ h₁ => ?_) fun _ _ x => x.elim
  cases r with
  | none => exact wpAny_execs_nil h₁
  | some v =>
    refine wpAny_mono h₁ (fun _ s₁' h₁' => wpAny_mono h₁' (fun _ s₂ h₂ => wpAny_mono h₂ (fun f s₃ h₃ => ?_) fun _ _ x => x.elim) fun _ _ x => x.elim) fun _ _ x => x.elim
    cases f <;> exact h₃

/-! snapshots -/
theorem others_nodup (h g : Heap) (ex : List Addr) : Nd (others h g ex) := by
  unfold Nd others
  rw [List.map_filterMap]
  have key : ∀ l : List Nat, l.Nodup → (l.filterMap fun b => Option.map (fun (x : Addr × Obj) => x.1) (if (decide (b ∈ ex) || (g.get? b).isSome) = true then none else (h.get? b).map fun o => (b, o))).Nodup := by
    intro l hl
    induction l with
    | nil => exact .nil
    | cons a r ih =>
      obtain ⟨h1, h2⟩ := List.nodup_cons.mp hl
      rw [List.filterMap_cons]
      split
      · exact ih h2
      · rename_i b hb
        refine List.nodup_cons.mpr ⟨fun q => ?_, ih h2⟩
        have e : b = a := by
          split at hb
          · cases hb
          · rw [Option.map_map, Option.map_eq_some_iff] at hb
            obtain ⟨o, _, e⟩ := hb
            exact e.symm
        obtain ⟨a', ha', hq⟩ := List.mem_filterMap.mp q
        have e' : b = a' := by
          split at hq
          · cases hq
          · rw [Option.map_map, Option.map_eq_some_iff] at hq
            obtain ⟨o, _, e⟩ := hq
            exact e.symm
        exact h1 (by rw [← e, e']; exact ha')
  exact key _ List.nodup_range
theorem snap_mem {L : Addr} {own : List (Addr × Obj)} : ∀ p ∈ own, p.1 ∈ L :: own.map (·.1) := fun _ hp => .tail _ (List.mem_map_of_mem hp)
theorem nd_snap {h g : Heap} {ex : List Addr} {own : List (Addr × Obj)} (nd : Nd own) (he : ∀ p ∈ own, p.1 ∈ ex) : Nd (own ++ others h g ex) := by
  unfold Nd at *
  rw [List.map_append, List.nodup_append]
  refine ⟨nd, others_nodup h g ex, fun a ha b hb e => ?_⟩
  obtain ⟨p, hp, rfl⟩ := List.mem_map.mp ha
  obtain ⟨⟨b', o⟩, hq, rfl⟩ := List.mem_map.mp hb
  exact (mem_others.mp hq).2.1 (by rw [← show p.1 = b' from e]; exact he p hp)
theorem news_snap {h g : Heap} {ex : List Addr} {own : List (Addr × Obj)} (N : News g L h own) (hL : L ∈ ex) : News g L h (own ++ others h g ex) := fun p hp =>
  (List.mem_append.mp hp).elim (N p) (news_others hL p)
theorem snap_back {g h h' : Heap} {m' : Str → Option Value} {ex : List Addr} {own : List (Addr × Obj)} (hk : ∀ b o, g.get? b = some o → h.get? b = some o) (F' : Fr g L h' m') (N' : News g L h' (own ++ others h g ex)) {b : Addr} {o : Obj} (e : h.get? b = some o) (hb : b ∉ ex) : h'.get? b = some o := by
  cases q : g.get? b with
  | none => exact (N' (b, o) (List.mem_append.mpr (.inr (mem_others.mpr ⟨e, hb, q⟩)))).1
  | some o' =>
    have h4 := hk b o' q
    rw [e] at h4
    rw [Option.some.inj h4]
    exact F'.keep b o' q

/-! enumerate of a list -/
noncomputable def enO (it : Addr) (i : Int) (old : Value) : Obj := { cls := .type "enumerate", dict := none, data := .fields #[.none, .bool false, .ref it, rawInt i, .none, old], slots := #[] }
noncomputable def en2O (i : Int) (t : Tok) (x : Value) : Obj := { cls := .type "tuple", data := .seq #[.int i t, x] }
theorem enum_led {l : Addr} {us : List Value} {Q : Value → Shared → Prop} (F : Fr h₀ L s.heap m) (N : News h₀ L s.heap news) (nd : Nd news) (hl : s.heap.IsList l us.toArray)
    (h : ∀ e it oI h', Fr h₀ L h' m → News h₀ L h' ((e, enO it 0 .none) :: (it, oI) :: news) → Nd ((e, enO it 0 .none) :: (it, oI) :: news) → ItO oI l 0 → (∀ b o, s.heap.get? b = some o → h'.get? b = some o) → Q (.ref e) { s with heap := h' }) :
    wpAny (model prog w) A (call (.type "enumerate") [.ref l]) Q E s := by
  refine call_enumerate_list hl fun h' he hit hsz hk => ?_
  obtain ⟨oI, ho, hc, hd⟩ := hit
  have hLs : @LT.lt Nat _ L s.heap.objs.size := F.ns.lt
  have n0 : ∀ a : Nat, s.heap.objs.size ≤ a → h₀.get? a = none := fun a ha => Heap.get?_none_of_le (Nat.le_trans (Nat.le_trans F.above (Nat.le_of_lt hLs)) ha)
  have nlt : ∀ p ∈ news, @LT.lt Nat _ p.1 s.heap.objs.size := fun p hp => Heap.lt_size (N p hp).1
  refine h (s.heap.objs.size + 1) s.heap.objs.size oI h' (F.kept hk) (fun p hp => ?_) ?_ ⟨hc, hd⟩ hk
  · rcases List.mem_cons.mp hp with rfl | hp
    · exact ⟨he, Nat.ne_of_gt (Nat.lt_succ_of_lt hLs), n0 _ (Nat.le_succ _)⟩
    · rcases List.mem_cons.mp hp with rfl | hp
      · exact ⟨ho, Nat.ne_of_gt hLs, n0 _ (Nat.le_refl _)⟩
      · exact ⟨hk _ _ (N p hp).1, (N p hp).2⟩
  · refine List.nodup_cons.mpr ⟨fun q => ?_, List.nodup_cons.mpr ⟨fun q => ?_, nd⟩⟩
    · rcases List.mem_cons.mp q with q | q
      · exact absurd q (Nat.succ_ne_self _)
      · obtain ⟨p, hp, e⟩ := List.mem_map.mp q
        have h1 := nlt p hp
        have h2 : @Eq Nat p.1 (s.heap.objs.size + 1) := e
        omega
    · obtain ⟨p, hp, e⟩ := List.mem_map.mp q
      have h1 := nlt p hp
      have h2 : @Eq Nat p.1 s.heap.objs.size := e
      omega
theorem iter_enum_led {e it : Addr} {i : Int} {old : Value} {rest : List (Addr × Obj)} {Q : Value → Shared → Prop} (N : News h₀ L s.heap ((e, enO it i old) :: rest)) (h : Q (.ref e) s) : wpAny (model prog w) A (pyIter (.ref e)) Q E s :=
  wpAny_pyIter_enum (N _ (.head _)).1 h
theorem enum_turn {e it l : Addr} {i : Nat} {us : List Value} {x old : Value} {oI : Obj} {rest : List (Addr × Obj)} {elts : List Expr} {x1 : Nat} {tp : Pos} {body : List Stmt} {P : Flow → Shared → Prop}
    (F : Fr h₀ L s.heap m) (N : News h₀ L s.heap ((e, enO it i old) :: (it, oI) :: rest)) (nd : Nd ((e, enO it i old) :: (it, oI) :: rest)) (hit : ItO oI l i) (hl : s.heap.IsList l us.toArray) (hx : us[i]? = some x)
    (h : ∀ ta oI' h' tk t, Fr h₀ L h' m → News h₀ L h' ((ta, en2O i t x) :: (e, enO it ((i : Int) + 1) x) :: (it, oI') :: rest) → Nd ((ta, en2O i t x) :: (e, enO it ((i : Int) + 1) x) :: (it, oI') :: rest) → ItO oI' l (i + 1) →
      (∀ b o, b ≠ e → b ≠ it → s.heap.get? b = some o → h'.get? b = some o) →
      wpAny (model prog w) A (assign (.Tuple elts x1 tp) env (.ref ta)) (fun _ s₂ => wpAny (model prog w) A (execs body env) P (fun _ _ => False) s₂) (fun _ _ => False) { s with heap := h', toks := tk }) :
    wpAny (model prog w) A (pyNext (.ref e)) (ForPA prog w A env (.Tuple elts x1 tp) (.ref e) body P) E s := by
  have ze := N _ (.head _)
  have zi := N _ (.tail _ (.head _))
  have hei : e ≠ it := fun q => (List.nodup_cons.mp nd).1 (by rw [q]; exact .head _)
  refine wpAny_pyNext_enum_item ze.1 ⟨oI, zi.1, hit.1, hit.2⟩ hl (by simpa using hx) hei fun h1 heo hit1 ht1 hz1 hk1 => ?_
  refine wpAny_letOwnedTupleGo_enum heo fun h2 he2 hs2 => ?_
  obtain ⟨oI', ho', hc', hd'⟩ := hit1
  have hLs : @LT.lt Nat _ L s.heap.objs.size := F.ns.lt
  have hes : @LT.lt Nat _ e s.heap.objs.size := Heap.lt_size ze.1
  have his : @LT.lt Nat _ it s.heap.objs.size := Heap.lt_size zi.1
  have hk2 : ∀ b o, b ≠ e → b ≠ it → s.heap.get? b = some o → h2.get? b = some o := fun b o a1 a2 q => (hs2.2 b a1).trans (hk1 b o a1 a2 q)
  have nrest : ∀ p ∈ rest, p.1 ≠ e ∧ p.1 ≠ it := fun p hp =>
    ⟨nd_post (pre := []) nd p (.tail _ hp), nd_post (pre := []) (List.nodup_cons.mp nd).2 p hp⟩
  refine h s.heap.objs.size oI' h2 _ s.toks ?_ (fun p hp => ?_) ?_ ⟨hc', hd'⟩ hk2
  · obtain ⟨oLL, es, ep, hLL, r⟩ := F.ns
    refine ⟨⟨oLL, es, ep, hk2 _ _ (Ne.symm ze.2.1) (Ne.symm zi.2.1) hLL, r⟩, fun b o q => hk2 b o (fun z => ?_) (fun z => ?_) (F.keep b o q), F.above⟩
    · rw [z, ze.2.2] at q; cases q
    · rw [z, zi.2.2] at q; cases q
  · rcases List.mem_cons.mp hp with rfl | hp
    · exact ⟨(hs2.2 _ (Nat.ne_of_gt hes)).trans ht1, Nat.ne_of_gt hLs, Heap.get?_none_of_le (Nat.le_trans F.above (Nat.le_of_lt hLs))⟩
    · rcases List.mem_cons.mp hp with rfl | hp
      · exact ⟨he2, ze.2⟩
      · rcases List.mem_cons.mp hp with rfl | hp
        · exact ⟨(hs2.2 _ (Ne.symm hei)).trans ho', zi.2⟩
        · have P := N p (.tail _ (.tail _ hp))
          exact ⟨hk2 _ _ (nrest p hp).1 (nrest p hp).2 P.1, P.2⟩
  · refine List.nodup_cons.mpr ⟨fun q => ?_, nd⟩
    have hlt : ∀ p ∈ ((e, enO it ((i : Int) + 1) x) :: (it, oI') :: rest), @LT.lt Nat _ p.1 s.heap.objs.size := by
      intro p hp
      rcases List.mem_cons.mp hp with rfl | hp
      · exact hes
      · rcases List.mem_cons.mp hp with rfl | hp
        · exact his
        · exact Heap.lt_size (N p (.tail _ (.tail _ hp))).1
    obtain ⟨p, hp, e1⟩ := List.mem_map.mp q
    have h1 := hlt p hp
    have h2 : @Eq Nat p.1 s.heap.objs.size := e1
    omega
theorem enum_end {e it l : Addr} {i : Nat} {us : List Value} {old : Value} {oI : Obj} {rest : List (Addr × Obj)} {Q : Option Value → Shared → Prop} (hh : A.handled = none)
    (F : Fr h₀ L s.heap m) (N : News h₀ L s.heap ((e, enO it i old) :: (it, oI) :: rest)) (nd : Nd ((e, enO it i old) :: (it, oI) :: rest)) (hit : ItO oI l i) (hl : s.heap.IsList l us.toArray) (hx : us[i]? = none)
    (h : ∀ h', Fr h₀ L h' m → News h₀ L h' rest → (∀ b o, b ≠ it → s.heap.get? b = some o → h'.get? b = some o) → Q none { s with heap := h' }) : wpAny (model prog w) A (pyNext (.ref e)) Q E s := by
  have ze := N _ (.head _)
  have zi := N _ (.tail _ (.head _))
  refine wpAny_pyNext_enum_end hh ze.1 ⟨oI, zi.1, hit.1, hit.2⟩ hl (by simpa using hx) fun h' he => h h' ⟨F.ns.extBut he (Ne.symm zi.2.1), fun b o q => he b o (fun z => ?_) (F.keep b o q), F.above⟩ (fun p hp => ?_) (fun b o q r => he b o q r)
  · rw [z, zi.2.2] at q; cases q
  · have P := N p (.tail _ (.tail _ hp))
    exact ⟨he _ _ (nd_post (pre := []) (List.nodup_cons.mp nd).2 p hp) P.1, P.2⟩
end
end Mine
end

/-! part LE -/
section
open PySem PySem.W PySem.Calls PyProof.Rows
set_option Elab.async false
set_option maxRecDepth 100000
set_option maxHeartbeats 8000000
namespace Mine

/-! cells -/
noncomputable def cellObj (a : Int) (y : Str) (b : Int) (t u v : Tok) (n : Nat) : Obj := { cls := .type "tuple", data := .seq #[.int a t, .str y u, .int b v] n }
structure Cell where
  a : Nat
  ds : List Nat
  b : Nat
structure TupO (o : Obj) : Prop where
  cls : o.cls = .type "tuple"
  data : ∃ a n, o.data = .seq a n
noncomputable def CellAt (h : Heap) (v : Value) (c : Cell) : Prop := ∃ ad y t u t' n, v = .ref ad ∧ h.get? ad = some (cellObj c.a y c.b t u t' n) ∧ y.cps.toList = c.ds
inductive CellsAt (h : Heap) : List Value → List Cell → Prop
  | nil : CellsAt h [] []
  | cons {v : Value} {x : Cell} {vs : List Value} {xs : List Cell} : CellAt h v x → CellsAt h vs xs → CellsAt h (v :: vs) (x :: xs)
theorem CellAt.keeps {h h' : Heap} {v : Value} {c : Cell} (p : CellAt h v c) (k : ∀ b o, h.get? b = some o → TupO o → h'.get? b = some o) : CellAt h' v c :=
  let ⟨ad, y, t, u, t', n, e, q, r⟩ := p; ⟨ad, y, t, u, t', n, e, k _ _ q ⟨rfl, _, _, rfl⟩, r⟩
theorem CellsAt.keeps {h h' : Heap} {vs : List Value} {xs : List Cell} (p : CellsAt h vs xs) (k : ∀ b o, h.get? b = some o → TupO o → h'.get? b = some o) : CellsAt h' vs xs := by
  induction p with
  | nil => exact .nil
  | cons h1 _ ih => exact .cons (h1.keeps k) ih
theorem CellsAt.length {h : Heap} {vs : List Value} {xs : List Cell} (p : CellsAt h vs xs) : vs.length = xs.length := by
  induction p with
  | nil => rfl
  | cons _ _ ih => rw [List.length_cons, List.length_cons, ih]
theorem CellsAt.snoc {h : Heap} {vs : List Value} {xs : List Cell} (p : CellsAt h vs xs) {v : Value} {c : Cell} (q : CellAt h v c) : CellsAt h (vs ++ [v]) (xs ++ [c]) := by
  induction p with
  | nil => exact .cons q .nil
  | cons h1 _ ih => exact .cons h1 ih
theorem cell_mk {h : Heap} {ad : Addr} {a b : Int} {y : Str} {t u t' : Tok} {n : Nat} {c : Cell} (q : h.get? ad = some { cls := .type "tuple", data := .seq [.int a t, .str y u, .int b t'].toArray n }) (ea : a = (c.a : Int)) (eb : b = (c.b : Int)) (ey : y.cps.toList = c.ds) : CellAt h (.ref ad) c := by
  subst ea eb
  exact ⟨ad, y, t, u, t', n, rfl, q, ey⟩
theorem CellsAt.get {h : Heap} {vs : List Value} {xs : List Cell} (p : CellsAt h vs xs) {i : Nat} {c : Cell} (hi : xs[i]? = some c) : ∃ v, vs[i]? = some v ∧ CellAt h v c := by
  induction p generalizing i with
  | nil => cases hi
  | @cons v x vs xs h1 _ ih =>
    cases i with
    | zero => cases hi; exact ⟨v, rfl, h1⟩
    | succ i => exact ih hi

noncomputable def numOf (i : Nat) (x : Int) : Int := (x / 12 + 1234567 * ((i : Int) + 1)) % 10 ^ (i % 4 * 2 + 1)
noncomputable def figs (i : Nat) (x : Int) : List Nat := (Str.ofString (toString (numOf i x))).cps.toList
noncomputable def cellOf (i : Nat) (x : Int) : Cell := ⟨(x % 4).toNat, figs i x, (x / 4 % 3).toNat⟩
noncomputable def cellsOf (xs : List Int) : List Cell := xs.mapIdx cellOf
noncomputable def srcOf (ns : List Int) : List Int := (ns.drop 1).take 6 ++ [7, 2, 9, 4]
theorem numOf_lt (i : Nat) (x : Int) : 0 ≤ numOf i x ∧ numOf i x < 10 ^ 7 := by
  unfold numOf
  have hp : (0 : Int) < 10 ^ (i % 4 * 2 + 1) := Int.pow_pos (by decide)
  refine ⟨Int.emod_nonneg _ (by omega), Int.lt_of_lt_of_le (Int.emod_lt_of_pos _ hp) ?_⟩
  have h4 : i % 4 < 4 := Nat.mod_lt _ (by decide)
  generalize i % 4 = k at *
  match k, h4 with
  | 0, _ => decide
  | 1, _ => decide
  | 2, _ => decide
  | 3, _ => decide
  | n + 4, h => omega
theorem figs_spec (i : Nat) (x : Int) : (figs i x).length ≤ 8 ∧ figs i x ≠ [] ∧ ∀ c ∈ figs i x, c ≠ 32 ∧ c ≠ 44 := by
  obtain ⟨h0, h1⟩ := numOf_lt i x
  unfold figs
  obtain ⟨n, hn⟩ : ∃ n : Nat, numOf i x = n := ⟨(numOf i x).toNat, by omega⟩
  rw [hn] at h1 ⊢
  have e : (Str.ofString (toString (n : Int))).cps.toList = (Nat.toDigits 10 n).map Char.toNat := by
    rw [Str.ofString_eq_toList]
    show (List.toArray _).toList = _
    rw [List.toList_toArray]
    show List.map Char.toNat (String.ofList (Nat.toDigits 10 n)).toList = _
    rw [String.toList_ofList]
  refine ⟨?_, ?_, ?_⟩
  · have h2 := int_text_length_le10 (a := (n : Int)) (k := 7) (by decide) (by omega)
    have h3 := PySem.ofString_length (toString (n : Int))
    have h4 : (Str.ofString (toString (n : Int))).cps.toList.length = (Str.ofString (toString (n : Int))).length := by simp [Str.length]
    omega
  · rw [e]; simp [Nat.toDigits_ne_nil]
  · rw [e]
    intro c hc
    obtain ⟨ch, hch, rfl⟩ := List.mem_map.mp hc
    have := Nat.isDigit_of_mem_toDigits (by decide) (by decide) hch
    simp only [Char.isDigit, Bool.and_eq_true, decide_eq_true_eq] at this
    have h5 : 48 ≤ ch.toNat := UInt32.le_iff_toNat_le.mp this.1
    omega

theorem src_eq (ns : List Int) : List.take (min 7 ns.length - 1) (List.drop 1 ns) ++ [7, 2, 9, 4] = srcOf ns := by
  unfold srcOf
  congr 1
  by_cases h : 7 ≤ ns.length
  · rw [show min 7 ns.length - 1 = 6 by omega]
  · rw [List.take_of_length_le (by rw [List.length_drop]; omega), List.take_of_length_le (by rw [List.length_drop]; omega)]
theorem src_length (ns : List Int) : (srcOf ns).length ≤ 10 ∧ 4 ≤ (srcOf ns).length := by
  unfold srcOf; simp only [List.length_append, List.length_take, List.length_cons, List.length_nil]; omega
theorem cellsOf_snoc (xs : List Int) (i : Nat) (x : Int) (h : xs[i]? = some x) : cellsOf (xs.take (i + 1)) = cellsOf (xs.take i) ++ [cellOf i x] := by
  have hi : i < xs.length := (List.getElem?_eq_some_iff.mp h).1
  unfold cellsOf
  rw [List.take_add_one, h, List.mapIdx_append]
  simp [Nat.min_eq_left (Nat.le_of_lt hi)]
theorem mod_gen {prog : Program} {w : World} {A : Around} {E : Value → Shared → Prop} {s : Shared} {a b : Int} {t u : Tok} {Q : Value → Shared → Prop} (hb : b ≠ 0) (h : ∀ z tk t, z = a.fmod b → Q (.int z t) { s with toks := tk }) : wpAny (model prog w) A (binaryOp .Mod (.int a t) (.int b u)) Q E s :=
  mod_int' hb (h _ _ _ rfl)
theorem num_eq (i : Nat) (x : Int) : (x.fdiv 12 + 1234567 * ((i : Int) + 1)).fmod (10 ^ (((i : Int).fmod 4) * 2 + 1).toNat) = numOf i x := by
  have ep : (((i : Int).fmod 4) * 2 + 1).toNat = i % 4 * 2 + 1 := by
    rw [Int.fmod_eq_emod_of_nonneg _ (by decide)]; omega
  have e2 : x.fdiv 12 = x / 12 := Int.fdiv_eq_ediv_of_nonneg _ (by decide)
  unfold numOf
  rw [ep, e2]
  exact Int.fmod_eq_emod_of_nonneg _ (Int.le_of_lt (Int.pow_pos (by decide)))
theorem num_bounds {i : Nat} {x z : Int} (h : z = numOf i x) : 0 ≤ z ∧ z < 10000000 := by
  have := numOf_lt i x
  rw [h]; exact this
theorem newTuple_led {M : Model} {A : Around} {E : Value → Shared → Prop} {s : Shared} {h₀ : Heap} {L : Addr} {m : Str → Option Value} {news : List (Addr × Obj)} {vs : List Value} {Q : Value → Shared → Prop} (F : Fr h₀ L s.heap m) (N : News h₀ L s.heap news) (nd : Nd news) (hv : vs.length ≤ 10000)
    (h : ∀ l h', Fr h₀ L h' m → News h₀ L h' ((l, { cls := .type "tuple", data := .seq vs.toArray }) :: news) → Nd ((l, { cls := .type "tuple", data := .seq vs.toArray }) :: news) → Q (.ref l) { s with heap := h' }) : wpAny M A (newTuple vs) Q E s :=
  newTuple_N F N (fun h' F' N' => h _ h' F' N' (nd_push N nd)) (by rw [sizeLine_eq]; omega)
theorem tup_off {g h : Heap} {L : Addr} {m : Str → Option Value} {own : List (Addr × Obj)} (F : Fr g L h m) (N : News g L h own) (hc : ∀ p ∈ own, p.2.cls ≠ .type "tuple") {b : Addr} {o : Obj} (e : h.get? b = some o) (ho : TupO o) : b ∉ L :: own.map (·.1) := by
  intro q
  rcases List.mem_cons.mp q with q | q
  · obtain ⟨oL, es, ep, hL, hd, _⟩ := F.ns
    rw [q, hL] at e
    cases e
    obtain ⟨a, n, hd'⟩ := ho.2
    rw [hd] at hd'; cases hd'
  · obtain ⟨p, hp, e1⟩ := List.mem_map.mp q
    rw [← e1, (N p hp).1] at e
    cases e
    exact hc p hp ho.1
theorem le_spec {w : World} {mean : ExcName → Option Value} {mg mb : Str → Option Value} {dp un : Nat} {gd : Option (List Code)} {fr : Option (List Env)} {s : Shared} {h₀ : Heap} {L : Addr} {m : Str → Option Value}
    {sc : Addr} {vs : List Value} {ns : List Int} {Q E : Value → Shared → Prop}
    (F : Fr h₀ L s.heap m) (X : (hd.heap_39 w.params).In h₀) (T : Top hd.view_39 (looseW hd.view_39 []) mean mg mb h₀) (hdp : dp ≤ 680) (hun : un ≤ 80)
    (hS : s.heap.IsList sc vs.toArray) (hI : IntsAre vs ns) (hn : ns.length ≤ 63)
    (hret : ∀ h' tk D cs n, Ev [] s.heap h' → s.heap.get? D = none → h'.get? D = some (listOf (List.toArray cs) n) → CellsAt h' cs (cellsOf (srcOf ns)) → Q (.ref D) { s with heap := h', toks := tk }) :
    wpAny (model Challenge.rw_oc0024_01.row.prog w) (ar dp un gd fr) (call (.ref 63) [.ref sc]) Q E s := by
  have N : News h₀ L s.heap [] := News.nil
  revert X; k_fill; intro X
  k_dflt (refine' enterM (binds := [(Str.ofString "script", .ref sc)]) ?k2 ?k3 ?k4 ?k5 ?k6 ?k7 ?k8 ?k9 ?kB ?_ ?c2 ?c3 ?c4 ?c5; walk_at "M.enter")
  intro g L' h' hg1 hg2 F' N' X' T'
  (try dsimp only)
  k_fold
  have hSg : g.IsList sc vs.toArray := let ⟨o, ho, r⟩ := hS; ⟨o, hg1 _ _ ho (by simp), r⟩
  clear hS
  walk_at "M.g6"
  refine newList_led F' N' (by simp [Nd]) (Nat.le_of_ble_eq_true rfl) ?_
  intro D h1 F1 N1 nd1
  walk_at "M.g6"
  rename_i hA2 F2 N2
  refine wpAny_mono (forMA (Q := fun fl s' => Box (A2 (fl = .next) (X5 fun (h1 : Heap) (tk : Nat) (m1 : Str → Option Value) (cs : List Value) (n1 : Nat) => A5 (s' = { s with heap := h1, toks := tk }) (Fr g L' h1 m1) (m1 (Str.ofString "cells") = some (.ref D)) (News g L' h1 [(D, listOf cs.toArray n1)]) (CellsAt h1 cs (cellsOf (srcOf ns)))))) ?iter) ?cont (fun _ _ x => x)
  case iter =>
    walk_at "M.g7"
    rename_i D3 us h3 F3 N3 hI3 l3
    rw [src_eq] at hI3
    have hlen3 := hI3.length
    have hsl := src_length ns
    have nDD : D3 ≠ D := Nat.ne_of_gt l3.2.2
    have N4 : News g L' h3 [(D3, listOf us.toArray 0), (D, listOf (List.toArray []) 0)] := news_subS N3 (by walk_at "M.sub")
    have nd4 : Nd [(D3, listOf us.toArray 0), (D, listOf (List.toArray []) 0)] := by
      simp only [Nd, List.map_cons, List.map_nil, List.nodup_cons, List.mem_cons, List.not_mem_nil, or_false, not_false_eq_true, List.nodup_nil, and_true]
      exact nDD
    refine enum_led F3 N4 nd4 (PySem.IsL.isList (n := 0) (N4 _ (.head _)).1) ?_
    intro e it oI h5 F5 N5 nd5 hIt5 hk5
    walk_at "M.g6"
    refine iter_enum_led N5 ?_
    refine ⟨fun k s' => Box (X8 fun (h1 : Heap) (tk : Nat) (m1 : Str → Option Value) (i : Nat) (cs : List Value) (n1 : Nat) (old : Value) (oI : Obj) => A9 (s' = { s with heap := h1, toks := tk }) (k = 20 - i) (Fr g L' h1 m1) (m1 (Str.ofString "cells") = some (.ref D)) (News g L' h1 [(e, enO it i old), (it, oI), (D3, listOf us.toArray 0), (D, listOf cs.toArray n1)]) (Nd [(e, enO it i old), (it, oI), (D3, listOf us.toArray 0), (D, listOf cs.toArray n1)]) (ItO oI D3 i) (i ≤ (srcOf ns).length) (CellsAt h1 cs (cellsOf ((srcOf ns).take i)))), 20,
      ⟨_, _, _, 0, [], 0, .none, oI, rfl, rfl, F5, rfl, N5, nd5, hIt5, Nat.zero_le _, .nil⟩, ?_⟩
    rintro k P1 hP1 s' ⟨h6, tk6, m6, i, cs, n6, old, oI6, rfl, rfl, F6, q1, N6, nd6, hIt6, hi6, hcs6⟩
    have hl6 : h6.IsList D3 us.toArray := PySem.IsL.isList (n := 0) (N6 _ (.tail _ (.tail _ (.head _)))).1
    by_cases hlt : i < (srcOf ns).length
    · obtain ⟨tx, hx⟩ := hI3.get i (srcOf ns)[i] (List.getElem?_eq_getElem hlt)
      have hxs : (srcOf ns)[i]? = some (srcOf ns)[i] := List.getElem?_eq_getElem hlt
      generalize (srcOf ns)[i] = x at hx hxs
      refine enum_turn F6 N6 nd6 hIt6 hl6 hx ?_
      intro ta oI7 h7 tk7 t7 F7 N7 nd7 hIt7 hk7
      have hcs7 : CellsAt h7 cs (cellsOf ((srcOf ns).take i)) := hcs6.keeps fun b o q1 q2 => hk7 b o (fun z => ?_) (fun z => ?_) q1
      rotate_left
      · rw [z, (N6 _ (.head _)).1] at q1; cases q1; exact absurd q2.1 (by simp [enO])
      · rw [z, (N6 _ (.tail _ (.head _))).1] at q1; cases q1; have q3 := q2.1; rw [hIt6.1] at q3; exact absurd q3 (by decide)
      replace F7 := fr_bnd F7 [(Str.ofString "cells", .ref D)] (bd q1 bd0)
      clear q1
      -- a snapshot
      have N7' : News g L' h7 [(e, enO it ((i : Int) + 1) (.int x tx)), (it, oI7), (D3, listOf us.toArray 0), (D, listOf cs.toArray n6)] := fun p hp => N7 p (.tail _ hp)
      have nd7' : Nd [(e, enO it ((i : Int) + 1) (.int x tx)), (it, oI7), (D3, listOf us.toArray 0), (D, listOf cs.toArray n6)] := (List.nodup_cons.mp nd7).2
      have hoff7 : ∀ b o, h7.get? b = some o → TupO o → b ∉ [L', e, it, D3, D] := fun b o q1 q2 => tup_off F7 N7' (by
        intro p hp
        simp only [List.mem_cons, List.not_mem_nil, or_false] at hp
        rcases hp with rfl | rfl | rfl | rfl
        · simp [enO]
        · rw [hIt7.1]; decide
        · simp
        · simp) q1 q2
      have N8 := news_snap (ex := [L', e, it, D3, D]) N7' (by simp)
      have nd8 := nd_snap (h := h7) (g := g) (ex := [L', e, it, D3, D]) nd7' snap_mem
      have hk70 : ∀ b o, g.get? b = some o → h7.get? b = some o := F7.keep
      refine unpackN_ F7 N8 ⟨_, (N7 _ (.head _)).1, rfl, _, rfl⟩ rfl rfl rfl (fun h8 F8 N9 => ?_)
      walk_at "M.g6"
      have ep : (((i : Int).fmod 4) * 2 + 1) = ((i % 4 * 2 + 1 : Nat) : Int) := by
        rw [Int.fmod_eq_emod_of_nonneg _ (by decide)]; omega
      refine pow_int_small (by rw [ep]; omega) (by rw [ep]; omega) (by decide) ?_
      refine mod_gen (Int.ne_of_gt (Int.pow_pos (by decide))) ?_
      intro z tk9 t9 hz
      have hzn : z = numOf i x := hz.trans (num_eq i x)
      clear hz
      have hzb := num_bounds hzn
      walk_at "M.g6"
      have hlg : z.natAbs.log2 < 1920 := by
        by_cases h0 : z.natAbs = 0
        · rw [h0]; decide
        · exact Nat.lt_of_lt_of_le ((Nat.log2_lt h0).mpr (show z.natAbs < 2 ^ 24 by omega)) (by decide)
      refine P.str_of_int hlg ?_
      walk_at "M.g6"
      (with_reducible rename Fr _ _ _ _ => F10)
      (with_reducible rename News _ _ _ _ => N10)
      refine newTuple_led F10 N10 nd8 (Nat.le_of_ble_eq_true rfl) ?_
      intro tup h11 F11 N11 nd11
      walk_at "M.g6"
      refine append_led (pre := [(tup, _), (e, _), (it, _), (D3, _)]) (post := others h7 g [L', e, it, D3, D]) F11 N11 nd11 (by rw [hcs7.length]; simp [cellsOf]; omega) ?_
      intro h12 F12 N12 nd12
      walk_at "M.g6"
      have ei : ((i + 1 : Nat) : Int) = (i : Int) + 1 := by omega
      have ea : x.fmod 4 = (((x % 4).toNat : Nat) : Int) := by rw [Int.fmod_eq_emod_of_nonneg _ (by decide)]; omega
      have eb : (x.fdiv 4).fmod 3 = (((x / 4 % 3).toNat : Nat) : Int) := by rw [Int.fmod_eq_emod_of_nonneg _ (by decide), Int.fdiv_eq_ediv_of_nonneg _ (by decide)]; omega
      have z12 := (N12 _ (.head _)).1
      have hcs12 : CellsAt h12 cs (cellsOf ((srcOf ns).take i)) := hcs7.keeps fun b o q1 q2 => snap_back (own := [(tup, _), (e, _), (it, _), (D3, _), (D, _)]) hk70 F12 N12 q1 (hoff7 b o q1 q2)
      have hcell : CellAt h12 (.ref tup) (cellOf i x) := cell_mk z12 ea eb (congrArg (fun n => (Str.ofString (toString n)).cps.toList) hzn)
      refine hP1 .next _ ⟨20 - (i + 1), by omega, h12, _, _, i + 1, cs ++ [.ref tup], n6 + 1, .int x tx, oI7, rfl, rfl, F12, rfl, ?_, ?_, hIt7, hlt, ?_⟩
      · rw [ei]
        exact news_subS N12 (by walk_at "M.sub")
      · rw [ei]
        exact nd_sub nd12 (by walk_at "M.sub")
      · rw [cellsOf_snoc _ _ _ hxs]
        exact hcs12.snoc hcell
    · have hie : i = (srcOf ns).length := by omega
      refine enum_end rfl F6 N6 nd6 hIt6 hl6 (by rw [List.getElem?_eq_none]; omega) ?_
      intro h7 F7 N7 hk7
      refine hP1 .brk _ ⟨rfl, h7, _, _, cs, n6, rfl, F7, q1, news_subS N7 (by walk_at "M.sub"), ?_⟩
      rw [hie, List.take_length] at hcs6
      refine hcs6.keeps fun b o q1 q2 => hk7 b o (fun z => ?_) q1
      rw [z, (N6 _ (.tail _ (.head _))).1] at q1; cases q1; have q3 := q2.1; rw [hIt6.1] at q3; exact absurd q3 (by decide)
  case cont =>
    rintro fl s' ⟨rfl, h3, tk, m1, cs, n1, rfl, F3, q1, N3, hcs⟩
    replace F3 := fr_bnd F3 [(Str.ofString "cells", .ref D)] (bd q1 bd0)
    clear q1
    dsimp only
    walk_at "M.g6"
    have z := nw_of hg1 N3 _ (.head _)
    exact hret _ _ _ _ _ (ev_of hg1 F3) (z.2.resolve_left (by simp)) z.1 hcs
end Mine
end

/-! part CP -/
section
open PySem PySem.W PySem.Calls PyProof.Rows
set_option Elab.async false
set_option maxRecDepth 100000
set_option maxHeartbeats 1000000
namespace Mine
/-! a list comprehension by a word that holds between the turns; own cells allowed -/
abbrev nilO : Obj := { cls := .type "list", dict := none, data := .seq ([] : List Value).toArray }
abbrev mapO : Obj := { cls := .type "dict", data := .dict #[] }
section
variable {prog : Program} {w : World} {A : Around} {s : Shared} {env : Env}
theorem envC {scope : Scope} {cl : List (Str × Addr)} {Q : Env → Shared → Prop} {E : Value → Shared → Prop}
    (h : Q { scope := scope, locals := s.heap.objs.size, globals := env.globals, cells := cellsFrom (s.heap.objs.size + 1) scope.names cl, qual := env.qual, func := none, code := env.code, frame := env.frame, builtins := env.builtins } { s with heap := pushCells (s.heap.push mapO) scope.names }) :
    wpAny (model prog w) A (newFunctionEnv scope env.globals cl [] env.qual none .none (some env)) Q E s := by
  simp only [newFunctionEnv, Option.isSome_some, if_true]
  refine wpAny_bind (wpAny_alloc ?_)
  refine wpAny_bind (wpAny_layCells _ (fun name kind cells => by cases hkc : kind == NameKind.cell <;> simp [hkc]) _ _ _ _ ?_)
  rw [show ({ s with heap := s.heap.push mapO } : Shared).heap.objs.size = s.heap.objs.size + 1 from Heap.size_push ..]
  refine wpAny_bind ?_
  rw [List.forIn_nil]
  exact wpAny_pure (wpAny_pure h)

noncomputable def CompP (prog : Program) (w : World) (A : Around) (env : Env) (target elt : Expr) (ifs : List Expr) (acc C : Addr) (P : Shared → Prop) (Q : Value → Shared → Prop) : Option Value → Shared → Prop
  | none, s => ∃ m, s.heap.Ns C m ∧ ∀ h', Heap.SameBut C s.heap h' → Q (.ref acc) { s with heap := h' }
  | some v, s => wpAny (model prog w) A (assign target env v) (fun _ s₂ =>
      wpAny (model prog w) A (forIn ifs true fun c r => if r = true then do let ok ← isTrue c env (eval c env); pure (ForInStep.yield ok) else pure (ForInStep.yield r)) (fun ok s₃ =>
        if ok = true then wpAny (model prog w) A (eval elt env) (fun x s₄ => wpAny (model prog w) A (call (.builtin "list.append") [.ref acc, x]) (fun _ s₅ => P s₅) (fun _ _ => False) s₄) (fun _ _ => False) s₃
        else P s₃) (fun _ _ => False) s₂) (fun _ _ => False) s
noncomputable def CompAt (prog : Program) (w : World) (A : Around) (env : Env) (scope : Scope) (cl : List (Str × Addr)) (target elt : Expr) (ifs : List Expr) (Q : Value → Shared → Prop) (it : Value) (s : Shared) : Prop :=
  ∃ (I : Nat → Shared → Prop) (n₀ : Nat), I n₀ { s with heap := pushCells ((s.heap.push nilO).push mapO) scope.names } ∧ (∀ v, letOwnedTupleGo target it v = pure ()) ∧
    (∀ (Q' E' : Value → Shared → Prop) s', Q' it s' → I n₀ s' → wpAny (model prog w) A (pyIter it) Q' E' s') ∧
    ∀ n (P : Shared → Prop), (∀ m s', m < n → I m s' → P s') → ∀ (Q' : Value → Shared → Prop), (∀ v s', Q v s' → Q' v s') → ∀ s', I n s' → wpAny (model prog w) A (pyNext it) (CompP prog w A (compEnvC scope (cellsFrom (s.heap.objs.size + 1 + 1) scope.names cl) (s.heap.objs.size + 1) env) target elt ifs s.heap.objs.size (s.heap.objs.size + 1) P Q') (fun _ _ => False) s'
theorem compM {target elt iter : Expr} {ifs : List Expr} {scope : Scope} {cl : List (Str × Addr)} {pos : Pos} {Q : Value → Shared → Prop}
    (hclos : closureFor scope env = pure cl) (hkind : scope.kind = .function) (hnames : ∀ y ∈ scope.names, y.2 = .local → scope.names.lookup y.1 = some .local)
    (h : wpAny (model prog w) A (eval iter env) (fun x s₁ => wpAny (model prog w) A (pyIter x) (CompAt prog w A env scope cl target elt ifs Q) (fun _ _ => False) s₁) (fun _ _ => False) s)
    (hs : ∀ x, foldedSetIterable iter env x = pure x := by intro _; rfl) :
    wpAny (model prog w) A (eval (.ListComp elt [⟨target, iter, ifs, 0⟩] scope pos) env) Q (fun _ _ => False) s := by
  rw [eval_ListComp]
  refine wpAny_comprehension_free (use := none) rfl hs hclos hkind hnames (wpAny_mono h (fun xv s₁ h₁ => wpAny_mono h₁ (fun it s₂ h₂ => ?_) fun _ _ x => x) fun _ _ x => x)
  obtain ⟨I, n₀, h0, ht, hself, turn⟩ := h₂
  refine wpAny_newObj_type (envC ?_)
  dsimp only
  rw [show ({ s₂ with heap := s₂.heap.push nilO } : Shared).heap.objs.size = s₂.heap.objs.size + 1 from Heap.size_push ..]
  have loop : codeAny (model prog w) A (.compLoop (.ListComp elt [⟨target, iter, ifs, 0⟩] scope pos) 0 it (.ref s₂.heap.objs.size) (compEnvC scope (cellsFrom (s₂.heap.objs.size + 1 + 1) scope.names cl) (s₂.heap.objs.size + 1) env))
      (compPost (model prog w) A (fun _ _ => False) none Q (.ref s₂.heap.objs.size) (s₂.heap.objs.size + 1)) { s₂ with heap := pushCells ((s₂.heap.push nilO).push mapO) scope.names } := by
    refine codeAny_compLoop_tests I (fun n s' hI => ?_) n₀ h0 ht
    refine wpAny_mono (turn n (fun s₃ => ∃ m, m < n ∧ I m s₃) (fun m _ a b => ⟨m, a, b⟩) _ (fun _ _ x => x) s' hI) (fun r s₃ h₃ => ?_) fun _ _ x => x.elim
    cases r with
    | none => exact h₃
    | some v =>
      refine wpAny_mono h₃ (fun _ s₄ h₄ => wpAny_mono h₄ (fun ok s₅ h₅ => ?_) fun _ _ x => x.elim) fun _ _ x => x.elim
      cases ok with
      | false => exact h₅
      | true => exact wpAny_mono h₅ (fun x s₆ h₆ => wpAny_mono h₆ (fun _ _ q => q) fun _ _ x => x.elim) fun _ _ x => x.elim
  exact codeAny_compStart_list loop (hself _ _ _ loop h0)
end
theorem enterC {prog : Program} {w : World} {A : Around} {s : Shared} {h₀ : Heap} {L : Addr} {m : Str → Option Value} {K : Frag} {p : Program} {loose : List Str} {mean : ExcName → Option Value} {mg mb : Str → Option Value}
    {Q E : Value → Shared → Prop} {name qual : Str} {params : Arguments} {body : List Stmt} {scope : Scope} {dV kV doc pm cdv ct oc : Value} {an od : Option Addr} {osl : Array (Option Value)} {f : Addr} {vs : List Value} {binds : List (Str × Value)}
    (F : Fr h₀ L s.heap m) (X₀ : K.In h₀) (T : Top p loose mean mg mb h₀)
    (ho : K.lookup f = some ⟨oc, od, .func (fnOf name qual params body scope dV kV doc pm an cdv ct), osl⟩) (hcd : codeIn K cdv qual = true) (hroom : A.depth < recursionLimit)
    (hbind : BindsTo s (fnOf name qual params body scope dV kV doc pm an cdv ct) ⟨vs, []⟩ binds)
    (hkind : (binds.all fun y => scope.names.lookup y.1 == some .local || scope.names.lookup y.1 == some .cell) = true) (hnd : ((cellsFrom 0 scope.names []).map (·.1)).Nodup)
    (h : ∀ L' h₁ tk cells, Fr s.heap L' h₁ (bindL (envOfC qual scope L' f cdv).kindOf binds fun _ => none) → News s.heap L' h₁ cells →
      CellsAre (bindC (envOfC qual scope L' f cdv).kindOf binds fun _ => none) (cellsFrom (L' + 1) scope.names []) cells → K.In s.heap → Top p loose mean mg mb s.heap →
      wpAny (model prog w) (A.deeper (envOfC qual scope L' f cdv)) (execs body (envOfC qual scope L' f cdv))
        (fun fl s' => Q (match fl with | .ret v => v | _ => .none) s') (fun _ _ => False)
        { s with heap := h₁, toks := tk })
    (hco : scope.isCoroutine = false) (hgen : scope.isGenerator = false) (hk : scope.kind = .function) : wpAny (model prog w) A (call (.ref f) vs) Q E s := by
  refine wpAny_call ?_
  refine codeAny_call_function (fd := fnOf name qual params body scope dV kV doc pm an cdv ct) hroom ((X₀.keeps F.keep) _ _ ho) rfl hco hgen rfl (codeRec_of (X₀.keeps F.keep) hcd) (hbind _ _ _ _ ?_)
  refine wpAny_newFunctionEnv_cells hk (kindsX hkind _) fun env' he s' x => ?_
  subst he
  refine ⟨(T.nolimit.keeps F.keep).keeps x.toInCall.keep, codeAny_func ?_⟩
  obtain ⟨h₁, tk, rfl, _⟩ := x.done
  obtain ⟨cells, NC, Y⟩ := Cl.news (h₀ := s.heap) (Nat.le_refl _) fun n c hm => ⟨x.cell n c (lookup_of_mem_nodup (cellsFrom_names scope.names 0 (s.heap.objs.size + 1) [] [] rfl ▸ hnd) hm), x.above n c hm⟩
  refine wpAny_mono (h s.heap.objs.size h₁ tk cells ⟨x.toInCall.ns, x.toInCall.keep, Nat.le_refl _⟩ NC Y (X₀.keeps F.keep) (T.keeps F.keep)) (fun fl s' hl => ?_) fun _ _ y => y.elim
  cases fl <;> exact hl
end Mine
end

/-! part CQ -/
section
open PySem PySem.W PySem.Calls PyProof.Rows
set_option Elab.async false
set_option maxRecDepth 100000
set_option maxHeartbeats 8000000
namespace Mine
section
variable {prog : Program} {w : World} {A : Around} {E : Value → Shared → Prop} {s : Shared} {env : Env} {h₀ : Heap} {L : Addr} {m : Str → Option Value} {news : List (Addr × Obj)}
theorem nd_front {pre post : List (Addr × Obj)} {p : Addr × Obj} (nd : Nd (pre ++ p :: post)) : Nd (p :: (pre ++ post)) := by
  unfold Nd at *
  exact ((List.perm_middle (a := p) (l₁ := pre) (l₂ := post)).map _).nodup_iff.mp nd
theorem news_front {h : Heap} {pre post : List (Addr × Obj)} {p : Addr × Obj} (N : News h₀ L h (pre ++ p :: post)) : News h₀ L h (p :: (pre ++ post)) := news_sub N fun q hq => by
  rcases List.mem_cons.mp hq with rfl | hq
  · exact List.mem_append.mpr (.inr (.head _))
  · rcases List.mem_append.mp hq with hq | hq
    · exact List.mem_append.mpr (.inl hq)
    · exact List.mem_append.mpr (.inr (.tail _ hq))
theorem nd_drop {pre post : List (Addr × Obj)} {p : Addr × Obj} (nd : Nd (pre ++ p :: post)) : Nd (pre ++ post) := nd_sub nd (List.Sublist.append_left (List.sublist_cons_self _ _) _)

theorem start0 (F : Fr h₀ L s.heap m) (N : News h₀ L s.heap news) (nd : Nd news) :
    Fr h₀ L ((s.heap.push nilO).push mapO) m ∧ News h₀ L ((s.heap.push nilO).push mapO) ((s.heap.objs.size + 1, mapO) :: (s.heap.objs.size, listOf ([] : List Value).toArray 0) :: news) ∧ Nd ((s.heap.objs.size + 1, mapO) :: (s.heap.objs.size, listOf ([] : List Value).toArray 0) :: news) := by
  have F1 := F.push nilO
  have N1 := N.push F nilO
  have nd1 := nd_push (o := nilO) N nd
  have F2 := F1.push mapO
  have N2 := N1.push F1 mapO
  have nd2 := nd_push (o := mapO) N1 nd1
  rw [show (s.heap.push nilO).objs.size = s.heap.objs.size + 1 from Heap.size_push ..] at N2 nd2
  exact ⟨F2, N2, nd2⟩
abbrev cellO : Obj := { cls := .type "cell", data := .cell none }
theorem start1 (F : Fr h₀ L s.heap m) (N : News h₀ L s.heap news) (nd : Nd news) :
    Fr h₀ L (((s.heap.push nilO).push mapO).push cellO) m ∧ News h₀ L (((s.heap.push nilO).push mapO).push cellO) ((s.heap.objs.size + 1 + 1, cellO) :: (s.heap.objs.size + 1, mapO) :: (s.heap.objs.size, listOf ([] : List Value).toArray 0) :: news) ∧ Nd ((s.heap.objs.size + 1 + 1, cellO) :: (s.heap.objs.size + 1, mapO) :: (s.heap.objs.size, listOf ([] : List Value).toArray 0) :: news) := by
  obtain ⟨F2, N2, nd2⟩ := start0 F N nd
  have F3 := F2.push cellO
  have N3 := N2.push F2 cellO
  have nd3 := nd_push (o := cellO) N2 nd2
  rw [show ((s.heap.push nilO).push mapO).objs.size = s.heap.objs.size + 1 + 1 by rw [Heap.size_push, Heap.size_push]] at N3 nd3
  exact ⟨F3, N3, nd3⟩
theorem nsObj_mapO : LCg.NsObj mapO (fun _ => none) := ⟨_, _, rfl, by intro p hp; simp at hp, fun _ => rfl⟩

theorem store_own {env : Env} {C : Addr} {oC : Obj} {m₂ : Str → Option Value} {x : Str} {v : Value} {pre post : List (Addr × Obj)} {Q : Unit → Shared → Prop} (F : Fr h₀ L s.heap m) (N : News h₀ L s.heap (pre ++ (C, oC) :: post)) (nd : Nd (pre ++ (C, oC) :: post)) (hC : LCg.NsObj oC m₂) (hL : env.locals = C)
    (h : ∀ h' oC', Fr h₀ L h' m → News h₀ L h' (pre ++ (C, oC') :: post) → Nd (pre ++ (C, oC') :: post) → LCg.NsObj oC' (fun y => if y = x then some v else m₂ y) → Q () { s with heap := h', toks := s.toks + 1 })
    (hl : env.kindOf x = some .local) (hk : (env.scope.kind == .class || (env.scope.kind == .module && env.locals != env.globals)) = false) : wpAny (model prog w) A (storeName env x v) Q E s := by
  subst hL
  have z := N (env.locals, oC) (List.mem_append_right _ (.head _))
  refine wpAny_storeName_local hl (hC.ns z.1) (fun h' hn hs => ?_) hk
  obtain ⟨o', ho', hd'⟩ := LCg.ns_obj hn
  exact h h' o' (F.change hs z.2.1 z.2.2) (N.setAt (nd_pre nd) (nd_post nd) hs ho') (nd_set nd) hd'
theorem store_cell {env : Env} {c : Addr} {o : Obj} {v₀ : Option Value} {x : Str} {v : Value} {pre post : List (Addr × Obj)} {Q : Unit → Shared → Prop} (F : Fr h₀ L s.heap m) (N : News h₀ L s.heap (pre ++ (c, o) :: post)) (nd : Nd (pre ++ (c, o) :: post)) (hd : o.data = .cell v₀)
    (hc : env.cells.lookup x = some c)
    (h : ∀ h' o', Fr h₀ L h' m → News h₀ L h' (pre ++ (c, o') :: post) → Nd (pre ++ (c, o') :: post) → o'.data = .cell (some v) → Q () { s with heap := h' })
    (hk : env.scope.kind = .function) (hl : env.kindOf x = some .cell) : wpAny (model prog w) A (storeName env x v) Q E s := by
  have z := N (c, o) (List.mem_append_right _ (.head _))
  refine wpAny_storeName_cell hk hl hc ⟨o, z.1, hd⟩ fun h' hv hs => ?_
  obtain ⟨o', ho', hd'⟩ := hv
  exact h h' o' (F.change hs z.2.1 z.2.2) (N.setAt (nd_pre nd) (nd_post nd) hs ho') (nd_set nd) hd'
theorem name_own {env : Env} {C : Addr} {oC : Obj} {m₂ : Str → Option Value} {x : Str} {v : Value} {pos : Pos} {Q : Value → Shared → Prop} (N : News h₀ L s.heap news) (hm : (C, oC) ∈ news) (hC : LCg.NsObj oC m₂) (hx : m₂ x = some v) (h : Q v s)
    (hL : env.locals = C) (hk : env.scope.kind = .function) (hl : env.kindOf x = some .local) (hd : (x == ("__debug__" : Str)) = false) : wpAny (model prog w) A (eval (.Name x pos) env) Q E s := by
  subst hL
  exact wpAny_Name (wpAny_loadName_local hk hl (hC.ns (N _ hm).1) hx h) hd
theorem name_free {env : Env} {c : Addr} {o : Obj} {x : Str} {v : Value} {pos : Pos} {Q : Value → Shared → Prop} (N : News h₀ L s.heap news) (hm : (c, o) ∈ news) (ho : o.data = .cell (some v)) (hc : env.cells.lookup x = some c) (h : Q v s)
    (hk : env.scope.kind = .function) (hl : env.kindOf x = some .free) (hd : (x == ("__debug__" : Str)) = false) (hn : (x == ("__classdict__" : Str)) = false) : wpAny (model prog w) A (eval (.Name x pos) env) Q E s :=
  wpAny_Name (wpAny_loadName_free hk hl hc ⟨o, (N _ hm).1, ho⟩ h hn) hd
theorem comp_end {C : Addr} {oC : Obj} {m₂ : Str → Option Value} {pre post : List (Addr × Obj)} {Q : Shared → Prop} (F : Fr h₀ L s.heap m) (N : News h₀ L s.heap (pre ++ (C, oC) :: post)) (nd : Nd (pre ++ (C, oC) :: post)) (hC : LCg.NsObj oC m₂)
    (h : ∀ h', Fr h₀ L h' m → News h₀ L h' (pre ++ post) → Nd (pre ++ post) → Q { s with heap := h' }) : ∃ m, s.heap.Ns C m ∧ ∀ h', Heap.SameBut C s.heap h' → Q { s with heap := h' } := by
  have z := N (C, oC) (List.mem_append_right _ (.head _))
  refine ⟨m₂, hC.ns z.1, fun h' hs => h h' (F.change hs z.2.1 z.2.2) (fun p hp => ?_) (nd_drop nd)⟩
  have hp' : p ∈ pre ++ (C, oC) :: post := (List.mem_append.mp hp).elim (fun q => List.mem_append.mpr (.inl q)) fun q => List.mem_append.mpr (.inr (.tail _ q))
  have P := N p hp'
  have hne : p.1 ≠ C := (List.mem_append.mp hp).elim (nd_pre nd p) (nd_post nd p)
  exact ⟨(hs.2 _ hne).trans P.1, P.2⟩
theorem iter_list_led {l : Addr} {items : Array Value} {Q : Value → Shared → Prop} (F : Fr h₀ L s.heap m) (N : News h₀ L s.heap news) (nd : Nd news) (hl : s.heap.IsList l items)
    (h : ∀ it oI h', Fr h₀ L h' m → News h₀ L h' ((it, oI) :: news) → Nd ((it, oI) :: news) → ItO oI l 0 → Q (.ref it) { s with heap := h' }) : wpAny (model prog w) A (pyIter (.ref l)) Q E s :=
  wpAny_pyIter_list hl (h _ _ _ (F.push _) (N.push F _) (nd_push N nd) ⟨rfl, rfl⟩)
end
end Mine
end

/-! part CF -/
section
open PySem PySem.W PySem.Calls PyProof.Rows
set_option Elab.async false
set_option maxRecDepth 100000
set_option maxHeartbeats 2000000
namespace Mine
section
variable {prog : Program} {w : World} {A : Around} {E : Value → Shared → Prop} {s : Shared} {env : Env} {h₀ : Heap} {L : Addr} {m : Str → Option Value} {news : List (Addr × Obj)}
theorem name_cell {env : Env} {c : Addr} {o : Obj} {x : Str} {v : Value} {pos : Pos} {Q : Value → Shared → Prop} (N : News h₀ L s.heap news) (hm : (c, o) ∈ news) (ho : o.data = .cell (some v)) (hc : env.cells.lookup x = some c) (h : Q v s)
    (hk : env.scope.kind = .function) (hl : env.kindOf x = some .cell) (hd : (x == ("__debug__" : Str)) = false) : wpAny (model prog w) A (eval (.Name x pos) env) Q E s :=
  wpAny_Name (wpAny_loadName_cell hk hl hc ⟨o, (N _ hm).1, ho⟩ h) hd
theorem ifs_one {M : Model} {c : Expr} {Q : Bool → Shared → Prop} (h : wpAny M A (isTrue c env (eval c env)) Q E s) :
    wpAny M A (forIn [c] true fun c r => if r = true then do let ok ← isTrue c env (eval c env); pure (ForInStep.yield ok) else pure (ForInStep.yield r)) Q E s := by
  rw [List.forIn_cons]
  refine wpAny_bind ?_
  simp only [if_true]
  refine wpAny_bind (wpAny_mono h (fun b s' hb => wpAny_pure ?_) fun _ _ x => x)
  dsimp only
  rw [List.forIn_nil]
  exact wpAny_pure hb
theorem ifs_nil {M : Model} {Q : Bool → Shared → Prop} (h : Q true s) :
    wpAny M A (forIn ([] : List Expr) true fun c r => if r = true then do let ok ← isTrue c env (eval c env); pure (ForInStep.yield ok) else pure (ForInStep.yield r)) Q E s := by
  rw [List.forIn_nil]
  exact wpAny_pure h
theorem item_p1' {a : Addr} {x : Int × Int} {t u v : Tok} {n : Nat} {value slice : PySem.Expr} {Q : Value → Shared → Prop} (ha : s.heap.get? a = some (pairObj x t u n)) (h : Q (.int x.2 u) s)
    (hs : subscripted slice false (.ref a) (.int 1 v) = operate [.ref a, .int 1 v] (getItem (.ref a) (.int 1 v)) := by with_unfolding_all rfl) : wpAny (model prog w) A (subscriptTail value slice (.ref a) (.int 1 v)) Q E s :=
  item_tupleT (l := [.int x.1 t, .int x.2 u]) (j := 1) ⟨_, ha, rfl, _, rfl⟩ (by decide) (by decide) rfl rfl h hs
theorem take_snoc' {ls : List (Int × Int)} {j : Nat} (h : j < ls.length) : ls.take (j + 1) = ls.take j ++ [ls.getD j (0, 0)] := by
  rw [List.take_add_one, List.getD_eq_getElem?_getD, List.getElem?_eq_getElem h]; rfl
noncomputable def scopeF : Scope := { kind := .function, names := [(Str.ofString ".0", .local), (Str.ofString "one", .local), (Str.ofString "k", .free)], isGenerator := false, isCoroutine := false }
theorem filt {cl : List (Str × Addr)} {K DL : Addr} {oK : Obj} {lg : List Value} {n3 : Nat} {ls : List (Int × Int)} {kk : Int} {tkk : Tok} {p1 p2 p3 p4 p5 p6 p7 p8 p9 pos : Pos} {Q : Value → Shared → Prop} (hh : A.handled = none)
    (hclos : closureFor scopeF env = pure cl) (hcl : cl.lookup (Str.ofString "k") = some K)
    (hk1 : ∀ C, (compEnvC scopeF cl C env).kindOf (Str.ofString "k") = some .cell) (hk2 : ∀ C, (compEnvC scopeF cl C env).kindOf (Str.ofString "one") = some .local) (hk3 : ∀ C, (compEnvC scopeF cl C env).scope.kind = .function)
    (hlog : ∀ (Q : Value → Shared → Prop), Q (.ref DL) s → wpAny (model prog w) A (eval (.Name (Str.ofString "log") p3) env) Q (fun _ _ => False) s)
    (F : Fr h₀ L s.heap m) (N : News h₀ L s.heap news) (nd : Nd news) (hK : (K, oK) ∈ news) (hoK : oK.data = .cell (some (.int kk tkk))) (hDL : (DL, listOf lg.toArray n3) ∈ news)
    (hp : ∀ h' m', Fr h₀ L h' m' → News h₀ L h' news → PairsAt h' lg ls) (hlen : ls.length ≤ 1000)
    (h : ∀ D h' tk ov n, Fr h₀ L h' m → News h₀ L h' ((D, listOf (List.toArray ov) n) :: news) → Nd ((D, listOf (List.toArray ov) n) :: news) → ov.length = ls.countP (fun p => p.2 == -kk) → Q (.ref D) { s with heap := h', toks := tk }) :
    wpAny (model prog w) A (eval (.ListComp (.Name (Str.ofString "one") p1) [⟨.Name (Str.ofString "one") p2, .Name (Str.ofString "log") p3, [.Compare (.Subscript (.Name (Str.ofString "one") p4) (.Constant (.int 1) 0 p5) p6) [.Eq] [.UnaryOp .USub (.Name (Str.ofString "k") p7) p8] p9], 0⟩] scopeF pos) env) Q (fun _ _ => False) s := by
  have hll : lg.length = ls.length := (hp _ _ F N).length
  refine compM hclos rfl (by intro y hy hl; revert hl; revert y; decide) (hlog _ ?_)
  refine iter_list_led F N nd (PySem.IsL.isList (n := n3) (N _ hDL).1) ?_
  intro it oI h1 F1 N1 nd1 hI1
  obtain ⟨F2, N2, nd2⟩ := start0 (s := { s with heap := h1 }) F1 N1 nd1
  dsimp only at N2 nd2
  unfold CompAt
  dsimp only
  generalize h1.objs.size = acc at *
  have N3 := news_front (pre := [(acc + 1, mapO), (acc, listOf (List.toArray []) 0)]) (post := news) N2
  have nd3 := nd_front (pre := [(acc + 1, mapO), (acc, listOf (List.toArray []) 0)]) (post := news) nd2
  refine ⟨fun k s' => Box (X8 fun (h1 : Heap) (tk : Nat) (j : Nat) (ov : List Value) (n : Nat) (oI oC : Obj) (m₂ : Str → Option Value) => A9 (s' = { s with heap := h1, toks := tk }) (k = 2000 - j) (j ≤ ls.length) (Fr h₀ L h1 m) (News h₀ L h1 ((it, oI) :: (acc + 1, oC) :: (acc, listOf ov.toArray n) :: news)) (Nd ((it, oI) :: (acc + 1, oC) :: (acc, listOf ov.toArray n) :: news)) (ItO oI DL j) (LCg.NsObj oC m₂) (ov.length = (ls.take j).countP (fun p => p.2 == -kk))), 2000, ⟨_, _, 0, [], 0, oI, mapO, _, rfl, rfl, Nat.zero_le _, F2, N3, nd3, hI1, nsObj_mapO, rfl⟩, fun _ => rfl, ?_, ?_⟩
  · rintro Q' E' s' hq ⟨h4, tk4, j, ov, n4, oI4, oC4, m4, rfl, hj, hjl, F4, N4, nd4, hI4, hC4, hov⟩
    exact wpAny_pyIter_listiter (i := j) (l := DL) ⟨oI4, (N4 _ (.head _)).1, hI4.1, hI4.2⟩ hq
  rintro k P hP Q₂ hQ₂ s' ⟨h4, tk4, j, ov, n4, oI4, oC4, m4, rfl, rfl, hjl, F4, N4, nd4, hI4, hC4, hov⟩
  have hl4 : h4.IsList DL lg.toArray := PySem.IsL.isList (n := n3) (N4 _ (.tail _ (.tail _ (.tail _ hDL)))).1
  by_cases hlt : j < ls.length
  · have hp4 := hp _ _ F4 (news_sub N4 fun p q => .tail _ (.tail _ (.tail _ q)))
    obtain ⟨v, hv, a, ta, ua, na, rfl, ha⟩ := hp4.get hlt
    refine next_list_led F4 N4 (nd_post (pre := []) nd4) hI4 hl4 (by simpa using hv) ?_
    intro h5 oI5 F5 N5 hI5
    have nd5 : Nd ((it, oI5) :: (acc + 1, oC4) :: (acc, listOf ov.toArray n4) :: news) := nd4
    have hp5 := hp _ _ F5 (news_sub N5 fun p q => .tail _ (.tail _ (.tail _ q)))
    unfold CompP
    refine wpAny_assign_Name (store_own (pre := [(it, oI5)]) (post := (acc, listOf ov.toArray n4) :: news) F5 N5 nd5 hC4 rfl ?_ (hk2 _) rfl)
    intro h6 oC6 F6 N6 nd6 hC6
    have hp6 := hp _ _ F6 (news_sub N6 fun p q => .tail _ (.tail _ (.tail _ q)))
    obtain ⟨a', ta', ua', na', ea, ha6⟩ := hp6.at hv
    cases ea
    refine ifs_one (wpAny_isTrue_Compare1 (Subscript_ (name_own N6 (.tail _ (.head _)) hC6 (v := .ref a) (by simp) ?_ rfl (hk3 _) (hk2 _) (by decide))))
    refine wpAny_Constant_int (item_p1' ha6 ?_)
    refine wpAny_UnaryOp (name_cell N6 (.tail _ (.tail _ (.tail _ hK))) hoK hcl ?_ (hk3 _) (hk1 _) (by decide))
    refine PyProof.Rows.neg_int (PyProof.Rows.eq_int (wpAny_truthy_bool ?_))
    by_cases hc : ((ls.getD j (0, 0)).2 == -kk) = true
    · rw [if_pos hc]
      refine name_own N6 (.tail _ (.head _)) hC6 (v := .ref a) (by simp) ?_ rfl (hk3 _) (hk2 _) (by decide)
      have hovl : ov.length ≤ 1000 := by
        have := List.countP_le_length (p := fun (p : Int × Int) => p.2 == -kk) (l := ls.take j)
        rw [List.length_take] at this
        omega
      refine append_led (pre := [(it, oI5), (acc + 1, oC6)]) (post := news) F6 N6 nd6 (by omega) ?_
      intro h7 F7 N7 nd7
      refine hP (2000 - (j + 1)) _ (by omega) ⟨h7, _, j + 1, _, _, oI5, oC6, _, rfl, rfl, hlt, F7, N7, nd7, hI5, hC6, ?_⟩
      rw [take_snoc' hlt, List.countP_append, List.length_append, hov, List.countP_singleton, if_pos hc, List.length_singleton]
    · rw [if_neg hc]
      refine hP (2000 - (j + 1)) _ (by omega) ⟨h6, _, j + 1, ov, _, oI5, oC6, _, rfl, rfl, hlt, F6, N6, nd6, hI5, hC6, ?_⟩
      rw [take_snoc' hlt, List.countP_append, hov, List.countP_singleton, if_neg hc, Nat.add_zero]
  · have hj : j = ls.length := by omega
    refine next_list_end hh F4 N4 (nd_post (pre := []) nd4) hI4 hl4 (by simp; omega) ?_
    intro h5 F5 N5
    refine comp_end (pre := []) (post := (acc, listOf ov.toArray n4) :: news) F5 N5 (List.nodup_cons.mp nd4).2 hC4 ?_
    intro h6 F6 N6 nd6
    refine hQ₂ _ _ ?_
    refine h _ _ _ ov n4 F6 N6 nd6 ?_
    rw [hov, hj, List.take_length]
end
end Mine
end

/-! part PA -/
section
open PySem PySem.W PySem.Calls PyProof.Rows
set_option Elab.async false
set_option maxRecDepth 100000
set_option maxHeartbeats 4000000
namespace Mine
noncomputable def tp (f c l : Int) (ds : List Nat) : Nat → List Nat
  | 0 => ds.take 1
  | n + 1 => tp f c l ds n ++ ((if comB f c l ((ds.length : Int) - ((n : Int) + 1)) = true then [44] else []) ++ [ds.getD (n + 1) 0])
noncomputable def cp (f c l : Int) (ds : List Nat) : Nat → Int
  | 0 => 0
  | n + 1 => cp f c l ds n + (if comB f c l ((ds.length : Int) - ((n : Int) + 1)) = true then 1 else 0)
noncomputable def toldL (f c l : Int) (ds : List Nat) : List Nat := tp f c l ds (ds.length - 1)
theorem partL_eq {f c l : Int} {ds : List Nat} (hf : 1 ≤ f ∧ f ≤ 3) (hc : 1 ≤ c ∧ c ≤ 3) (hl : l = 0 ∨ l = 127 ∨ l = 2) (h : ds.length ≤ 8) (h0 : ds ≠ []) : partL f c l ds = toldL f c l ds := by
  have hf' : f = 1 ∨ f = 2 ∨ f = 3 := by omega
  have hc' : c = 1 ∨ c = 2 ∨ c = 3 := by omega
  clear hf hc
  rcases hf' with rfl | rfl | rfl <;> rcases hc' with rfl | rfl | rfl <;> rcases hl with rfl | rfl | rfl <;>
  (match ds, h, h0 with
    | [], _, h0 => exact absurd rfl h0
    | [_], _, _ => kernel_rfl
    | [_, _], _, _ => kernel_rfl
    | [_, _, _], _, _ => kernel_rfl
    | [_, _, _, _], _, _ => kernel_rfl
    | [_, _, _, _, _], _, _ => kernel_rfl
    | [_, _, _, _, _, _], _, _ => kernel_rfl
    | [_, _, _, _, _, _, _], _, _ => kernel_rfl
    | [_, _, _, _, _, _, _, _], _, _ => kernel_rfl
    | _ :: _ :: _ :: _ :: _ :: _ :: _ :: _ :: _ :: _, h, _ => exact absurd h (by simp))
theorem tp_len_eq {f c l : Int} {ds : List Nat} (h : 0 < ds.length) : ∀ n, ((tp f c l ds n).length : Int) = n + 1 + cp f c l ds n
  | 0 => by rw [tp, cp, List.length_take]; omega
  | n + 1 => by
    have ih := tp_len_eq (f := f) (c := c) (l := l) h n
    rw [tp, cp, List.length_append, List.length_append]
    split <;> simp <;> omega
theorem cp_bounds (f c l : Int) (ds : List Nat) : ∀ n, 0 ≤ cp f c l ds n ∧ cp f c l ds n ≤ n
  | 0 => by rw [cp]; omega
  | n + 1 => by
    have := cp_bounds f c l ds n
    rw [cp]; split <;> omega
theorem told_len {f c l : Int} {ds : List Nat} (h : ds ≠ []) : ((toldL f c l ds).length : Int) = ds.length + cp f c l ds (ds.length - 1) := by
  have hp : 0 < ds.length := List.length_pos_iff.mpr h
  unfold toldL
  rw [tp_len_eq hp]; omega
theorem tp_head {f c l : Int} {d : Nat} {r : List Nat} : ∀ n, (tp f c l (d :: r) n).head? = some d
  | 0 => rfl
  | n + 1 => by
    have ih := tp_head (f := f) (c := c) (l := l) (d := d) (r := r) n
    rw [tp, List.head?_append, ih]; rfl
theorem tp_mem {f c l : Int} {ds : List Nat} {b : Nat} (hb : 44 < b) (hd : ∀ e ∈ ds, e < b) : ∀ n, ∀ e ∈ tp f c l ds n, e < b
  | 0, e, he => hd e (List.mem_of_mem_take he)
  | n + 1, e, he => by
    rw [tp] at he
    rcases List.mem_append.mp he with q | q
    · exact tp_mem hb hd n e q
    · rcases List.mem_append.mp q with q | q
      · split at q
        · rw [List.mem_singleton.mp q]; exact hb
        · cases q
      · rw [List.mem_singleton.mp q, List.getD_eq_getElem?_getD]
        cases hx : ds[n + 1]? with
        | none => show 0 < b; omega
        | some v => exact hd v (List.mem_of_getElem? hx)
theorem partL_len {f c l : Int} {ds : List Nat} (hf : 1 ≤ f ∧ f ≤ 3) (hc : 1 ≤ c ∧ c ≤ 3) (hl : l = 0 ∨ l = 127 ∨ l = 2) (h : ds.length ≤ 8) (h0 : ds ≠ []) : ds.length ≤ (partL f c l ds).length ∧ (partL f c l ds).length ≤ 16 := by
  rw [partL_eq hf hc hl h h0]
  have h1 := told_len (f := f) (c := c) (l := l) h0
  have h2 := cp_bounds f c l ds (ds.length - 1)
  omega
theorem partL_head {f c l : Int} {ds : List Nat} (hf : 1 ≤ f ∧ f ≤ 3) (hc : 1 ≤ c ∧ c ≤ 3) (hl : l = 0 ∨ l = 127 ∨ l = 2) (h : ds.length ≤ 8) (h0 : ds ≠ []) : ∃ d ∈ ds, (partL f c l ds).head? = some d := by
  rw [partL_eq hf hc hl h h0]
  cases ds with
  | nil => exact absurd rfl h0
  | cons d r => exact ⟨d, .head _, tp_head _⟩
end Mine
end

/-! part PH -/
section
open PySem PySem.W PySem.Calls PyProof.Rows
set_option Elab.async false
set_option maxRecDepth 100000
set_option maxHeartbeats 2000000
namespace Mine
noncomputable def le2 (x y : Int × Int) : Prop := x.1 < y.1 ∨ (x.1 = y.1 ∧ x.2 ≤ y.2)
theorem plt_iff {x y : Int × Int} : plt x y = true ↔ ¬ le2 y x := by
  unfold plt le2
  split
  · rw [decide_eq_true_iff]; omega
  · rw [decide_eq_true_iff]; omega
theorem le2_of_plt {x y : Int × Int} (h : plt x y = true) : le2 x y := by
  have := plt_iff.mp h; unfold le2 at *; omega
theorem le2_of_not {x y : Int × Int} (h : ¬ plt x y = true) : le2 y x := Classical.byContradiction fun q => h (plt_iff.mpr q)
theorem le2_refl (x : Int × Int) : le2 x x := by unfold le2; omega
theorem le2_trans {x y z : Int × Int} (h1 : le2 x y) (h2 : le2 y z) : le2 x z := by unfold le2 at *; omega
theorem le2_antisymm {x y : Int × Int} (h1 : le2 x y) (h2 : le2 y x) : x = y := by
  unfold le2 at *
  exact Prod.ext (by omega) (by omega)
noncomputable def gx (xs : List (Int × Int)) (i : Nat) : Int × Int := xs.getD i (0, 0)
theorem gx_set_ne {xs : List (Int × Int)} {i j : Nat} (h : i ≠ j) (v : Int × Int) : gx (xs.set i v) j = gx xs j := by
  unfold gx; rw [List.getD_eq_getElem?_getD, List.getD_eq_getElem?_getD, List.getElem?_set_ne h]
theorem gx_set_eq {xs : List (Int × Int)} {i : Nat} (h : i < xs.length) (v : Int × Int) : gx (xs.set i v) i = v := by
  unfold gx; rw [List.getD_eq_getElem?_getD, List.getElem?_set_self h]; rfl
theorem gx_get {xs : List (Int × Int)} {i : Nat} (h : i < xs.length) : gx xs i = xs[i] := by
  unfold gx; rw [List.getD_eq_getElem?_getD, List.getElem?_eq_getElem h]; rfl
abbrev par (j : Nat) : Nat := (j - 1) / 2
inductive Desc (s : Nat) : Nat → Prop
  | refl : Desc s s
  | step {p : Nat} : 0 < p → Desc s (par p) → Desc s p
theorem Desc.le {s p : Nat} (h : Desc s p) : s ≤ p := by
  induction h with
  | refl => exact Nat.le_refl _
  | step _ _ ih => unfold par at ih; omega
theorem Desc.par {s p : Nat} (h : Desc s p) (hlt : s < p) : Desc s (par p) := by
  cases h with
  | refl => exact absurd hlt (Nat.lt_irrefl _)
  | step _ h => exact h
noncomputable def HeapFrom (s : Nat) (xs : List (Int × Int)) : Prop := ∀ j, 0 < j → j < xs.length → s ≤ par j → le2 (gx xs j) (gx xs (par j))
structure Hole (s : Nat) (xs : List (Int × Int)) (pos : Nat) : Prop where
  A : ∀ j, 0 < j → j < xs.length → s ≤ par j → j ≠ pos → par j ≠ pos → le2 (gx xs j) (gx xs (par j))
  B : s < pos → ∀ j, 0 < j → j < xs.length → par j = pos → le2 (gx xs j) (gx xs (par pos))
theorem swap_perm {xs : List (Int × Int)} {i j : Nat} (hi : i < xs.length) (hj : j < xs.length) (hij : i ≠ j) (x : Int × Int) : ((xs.set i (gx xs j)).set j x).Perm (xs.set i x) := by
  have h := List.set_set_perm (as := xs.set i x) (i := i) (j := j) (by rw [List.length_set]; exact hi) (by rw [List.length_set]; exact hj)
  rw [List.set_set, List.getElem_set_self, List.getElem_set_ne hij] at h
  rw [gx_get hj]; exact h
theorem chd_spec {xs : List (Int × Int)} {pos : Nat} (h : 2 * pos + 1 < xs.length) : par (chd xs pos) = pos ∧ 0 < chd xs pos ∧ ∀ j, 0 < j → j < xs.length → par j = pos → le2 (gx xs j) (gx xs (chd xs pos)) := by
  unfold chd
  split
  · split
    · rename_i h1 h2
      refine ⟨by unfold par; omega, by omega, fun j j0 jl jp => ?_⟩
      have : j = 2 * pos + 1 ∨ j = 2 * pos + 2 := by unfold par at jp; omega
      rcases this with rfl | rfl
      · exact le2_refl _
      · exact le2_of_plt h2
    · rename_i h1 h2
      refine ⟨by unfold par; omega, by omega, fun j j0 jl jp => ?_⟩
      have : j = 2 * pos + 1 ∨ j = 2 * pos + 2 := by unfold par at jp; omega
      rcases this with rfl | rfl
      · exact le2_of_not h2
      · exact le2_refl _
  · refine ⟨by unfold par; omega, by omega, fun j j0 jl jp => ?_⟩
    have : j = 2 * pos + 1 := by unfold par at jp; omega
    subst this
    exact le2_refl _
theorem supGo_spec {s : Nat} (xs : List (Int × Int)) (pos : Nat) (hp : pos < xs.length) (hd : Desc s pos) (hH : Hole s xs pos) :
    (supGo xs pos).2 < xs.length ∧ Desc s (supGo xs pos).2 ∧ Hole s (supGo xs pos).1 (supGo xs pos).2 ∧ xs.length ≤ 2 * (supGo xs pos).2 + 1 ∧ ∀ x, ((supGo xs pos).1.set (supGo xs pos).2 x).Perm (xs.set pos x) := by
  generalize hk : xs.length - pos = k
  induction k using Nat.strongRecOn generalizing xs pos with
  | _ k ih =>
    unfold supGo
    split
    · rename_i h
      have h1 := chd_gt xs pos
      have h2 := chd_lt h
      obtain ⟨c1, c2, c3⟩ := chd_spec h
      generalize chd xs pos = c at *
      have hsp := hd.le
      have hl : (xs.set pos (xs.getD c (0, 0))).length = xs.length := List.length_set
      have hH' : Hole s (xs.set pos (gx xs c)) c := by
        have hl' : (xs.set pos (gx xs c)).length = xs.length := List.length_set
        refine ⟨fun j j0 jl js jc jpc => ?_, fun _ j j0 jl jp => ?_⟩
        · rw [hl'] at jl
          by_cases e1 : j = pos
          · subst e1
            have hne : j ≠ par j := by unfold par; omega
            rw [gx_set_eq hp, gx_set_ne hne]
            exact hH.B (by unfold par at js; omega) c c2 h2 c1
          · rw [gx_set_ne (Ne.symm e1)]
            by_cases e2 : par j = pos
            · rw [e2, gx_set_eq hp]; exact c3 j j0 jl e2
            · rw [gx_set_ne (Ne.symm e2)]; exact hH.A j j0 jl js e1 e2
        · rw [hl'] at jl
          have e1 : j ≠ pos := by unfold par at jp; omega
          rw [gx_set_ne (Ne.symm e1), c1, gx_set_eq hp, ← jp]
          exact hH.A j j0 jl (by omega) e1 (by omega)
      have r := ih (xs.length - c) (by omega) (xs.set pos (gx xs c)) c (by rw [List.length_set]; exact h2) (.step c2 (by rw [c1]; exact hd)) hH' (by rw [List.length_set])
      rw [List.length_set] at r
      obtain ⟨r1, r2, r3, r4, r5⟩ := r
      exact ⟨r1, r2, r3, r4, fun x => (r5 x).trans (swap_perm hp h2 (by omega) x)⟩
    · rename_i h
      exact ⟨hp, hd, hH, by dsimp only; omega, fun x => List.Perm.refl _⟩
theorem sdn_spec {s : Nat} {x : Int × Int} (ys : List (Int × Int)) (pos : Nat) (hp : pos < ys.length) (hd : Desc s pos) (hH : Hole s ys pos) (hC : ∀ j, 0 < j → j < ys.length → par j = pos → le2 (gx ys j) x) :
    HeapFrom s (sdn s x ys pos) ∧ (sdn s x ys pos).Perm (ys.set pos x) := by
  induction pos using Nat.strongRecOn generalizing ys with
  | _ pos ih =>
    have hsp := hd.le
    have done : (s < pos → le2 x (gx ys (par pos))) → HeapFrom s (ys.set pos x) := fun hx j j0 jl js => by
      rw [List.length_set] at jl
      by_cases e1 : j = pos
      · subst e1
        have hne : j ≠ par j := by unfold par; omega
        rw [gx_set_eq hp, gx_set_ne hne]
        exact hx (by unfold par at js; omega)
      · rw [gx_set_ne (Ne.symm e1)]
        by_cases e2 : par j = pos
        · rw [e2, gx_set_eq hp]; exact hC j j0 jl e2
        · rw [gx_set_ne (Ne.symm e2)]; exact hH.A j j0 jl js e1 e2
    unfold sdn
    split
    · rename_i hlt
      split
      · rename_i hpl
        have hpp : par pos < pos := by unfold par; omega
        have hdp := hd.par hlt
        have hps := hdp.le
        have hl : (ys.set pos (gx ys (par pos))).length = ys.length := List.length_set
        have hH' : Hole s (ys.set pos (gx ys (par pos))) (par pos) := by
          refine ⟨fun j j0 jl js jc jpc => ?_, fun hsl j j0 jl jp => ?_⟩
          · rw [hl] at jl
            have e1 : j ≠ pos := fun e => jpc (by rw [e])
            rw [gx_set_ne (Ne.symm e1)]
            by_cases e2 : par j = pos
            · rw [e2, gx_set_eq hp]; exact hH.B hlt j j0 jl e2
            · rw [gx_set_ne (Ne.symm e2)]; exact hH.A j j0 jl js e1 e2
          · rw [hl] at jl
            have hpar : le2 (gx ys (par pos)) (gx ys (par (par pos))) := hH.A (par pos) (by omega) (by omega) ((hdp.par hsl).le) (by omega) (by unfold par at *; omega)
            rw [gx_set_ne (j := par (par pos)) (by unfold par at *; omega)]
            by_cases e1 : j = pos
            · rw [e1, gx_set_eq hp]; exact hpar
            · rw [gx_set_ne (Ne.symm e1)]
              have := hH.A j j0 jl (by rw [jp]; exact hps) e1 (by rw [jp]; omega)
              rw [jp] at this
              exact le2_trans this hpar
        have hC' : ∀ j, 0 < j → j < (ys.set pos (gx ys (par pos))).length → par j = par pos → le2 (gx (ys.set pos (gx ys (par pos))) j) x := fun j j0 jl jp => by
          rw [hl] at jl
          by_cases e1 : j = pos
          · rw [e1, gx_set_eq hp]; exact le2_of_plt hpl
          · rw [gx_set_ne (Ne.symm e1)]
            have := hH.A j j0 jl (by rw [jp]; exact hps) e1 (by rw [jp]; omega)
            rw [jp] at this
            exact le2_trans this (le2_of_plt hpl)
        obtain ⟨r1, r2⟩ := ih (par pos) hpp (ys.set pos (gx ys (par pos))) (by rw [hl]; omega) hdp hH' hC'
        exact ⟨r1, r2.trans (swap_perm hp (by omega) (by omega) x)⟩
      · rename_i hpl
        exact ⟨done fun _ => le2_of_not hpl, List.Perm.refl _⟩
    · rename_i hlt
      exact ⟨done fun q => absurd q hlt, List.Perm.refl _⟩
theorem sup_spec {xs : List (Int × Int)} {pos : Nat} (hp : pos < xs.length) (h : HeapFrom (pos + 1) xs) : HeapFrom pos (sup xs pos) ∧ (sup xs pos).Perm xs := by
  have hH : Hole pos xs pos := ⟨fun j j0 jl js j1 j2 => h j j0 jl (by omega), fun q => absurd q (Nat.lt_irrefl _)⟩
  obtain ⟨r1, r2, r3, r4, r5⟩ := supGo_spec xs pos hp .refl hH
  have hl := supGo_length xs pos
  unfold sup
  have hH' : Hole pos ((supGo xs pos).1.set (supGo xs pos).2 (xs.getD pos (0, 0))) (supGo xs pos).2 := by
    refine ⟨fun j j0 jl js j1 j2 => ?_, fun _ j j0 jl jp => ?_⟩
    · rw [List.length_set] at jl
      rw [gx_set_ne (Ne.symm j1), gx_set_ne (Ne.symm j2)]
      exact r3.A j j0 jl js j1 j2
    · rw [List.length_set, hl] at jl
      unfold par at jp; omega
  obtain ⟨s1, s2⟩ := sdn_spec (x := xs.getD pos (0, 0)) _ _ (by rw [List.length_set, hl]; exact r1) r2 hH' (fun j j0 jl jp => by rw [List.length_set, hl] at jl; unfold par at jp; omega)
  refine ⟨s1, s2.trans ?_⟩
  rw [List.set_set]
  refine (r5 _).trans ?_
  have e : xs.getD pos (0, 0) = xs[pos] := gx_get hp
  rw [e, List.set_getElem_self]
theorem hfy_spec : ∀ (i : Nat) (xs : List (Int × Int)), i ≤ xs.length → HeapFrom i xs → HeapFrom 0 (hfy xs i) ∧ (hfy xs i).Perm xs
  | 0, xs, _, h => ⟨h, List.Perm.refl _⟩
  | i + 1, xs, hi, h => by
    obtain ⟨r1, r2⟩ := sup_spec (pos := i) (by omega) h
    obtain ⟨q1, q2⟩ := hfy_spec i (sup xs i) (by rw [sup_length]; omega) r1
    exact ⟨q1, q2.trans r2⟩
theorem heapify_spec (xs : List (Int × Int)) : HeapFrom 0 (hfy xs (xs.length / 2)) ∧ (hfy xs (xs.length / 2)).Perm xs :=
  hfy_spec _ _ (by omega) fun j j0 jl js => by unfold par at js; omega
theorem head_max {xs : List (Int × Int)} (h : HeapFrom 0 xs) : ∀ j, j < xs.length → le2 (gx xs j) (gx xs 0) := by
  intro j
  induction j using Nat.strongRecOn with
  | _ j ih =>
    intro hj
    by_cases e : j = 0
    · subst e; exact le2_refl _
    · exact le2_trans (h j (by omega) hj (Nat.zero_le _)) (ih (par j) (by unfold par; omega) (by unfold par; omega))
theorem replace_spec {xs : List (Int × Int)} (h : HeapFrom 0 xs) (h0 : 0 < xs.length) (v : Int × Int) : HeapFrom 0 (sup (xs.set 0 v) 0) ∧ (sup (xs.set 0 v) 0).Perm (xs.set 0 v) := by
  refine sup_spec (by rw [List.length_set]; exact h0) fun j j0 jl js => ?_
  rw [List.length_set] at jl
  rw [gx_set_ne (by omega), gx_set_ne (by unfold par at *; omega)]
  exact h j j0 jl (Nat.zero_le _)
end Mine
end

/-! part PD -/
section
open PySem PySem.W PySem.Calls PyProof.Rows
set_option Elab.async false
set_option maxRecDepth 100000
set_option maxHeartbeats 2000000
namespace Mine
theorem cells3 {cm : Str → Option Value} {n n' n'' : Str} {c c' c'' : Addr} {cells : List (Addr × Obj)} (x : CellsAre cm [(n, c), (n', c'), (n'', c'')] cells) :
    ∃ o o' o'', cells = [(c, o), (c', o'), (c'', o'')] ∧ o.data = .cell (cm n) ∧ o'.data = .cell (cm n') ∧ o''.data = .cell (cm n'') := by
  cases x with | cons h r => obtain ⟨o', o'', rfl, h', h''⟩ := r.two; exact ⟨_, o', o'', rfl, h, h', h''⟩
noncomputable def wideOf (f c l : Int) (cs : List Cell) : List (List Nat) := cs.map fun x => padL x.a (partL f c l x.ds) x.b
noncomputable def heap0 (cs : List Cell) : List (Int × Int) := cs.mapIdx fun i x => (((x.a + x.b : Nat) : Int), -(i : Int))
noncomputable def comN (f c l : Int) (cs : List Cell) : Int := (cs.map fun x => ((partL f c l x.ds).length : Int) - x.ds.length).sum
noncomputable def goneN (ls : List (Int × Int)) (k : Nat) : Nat := ls.countP fun p => p.2 == -(k : Int)
noncomputable def heapOf (cs : List Cell) (ls : List (Int × Int)) : List (Int × Int) := cs.mapIdx fun k x => (((x.a + x.b : Nat) : Int) - (goneN ls k : Int), -(k : Int))
noncomputable def textsOf (f c l : Int) (cs : List Cell) (ls : List (Int × Int)) : List (List Nat) := cs.mapIdx fun k x => padL (x.a - goneN ls k) (partL f c l x.ds) (x.b - (goneN ls k - x.a))
noncomputable def hd0 (xs : List (Int × Int)) : Int × Int := xs.getD 0 (0, 0)
noncomputable def runGo : Nat → List (Int × Int) → List (Int × Int) → List (Int × Int)
  | 0, _, ls => ls
  | n + 1, xs, ls => if 0 < (hd0 xs).1 then runGo n (sup (xs.set 0 ((hd0 xs).1 - 1, (hd0 xs).2)) 0) (ls ++ [hd0 xs]) else ls
noncomputable def runLog (f c l : Int) (cs : List Cell) : List (Int × Int) := runGo (comN f c l cs).toNat (hfy (heap0 cs) (cs.length / 2)) []
structure RI (cs : List Cell) (xs ls : List (Int × Int)) : Prop where
  perm : xs.Perm (heapOf cs ls)
  heap : HeapFrom 0 xs
  le : ∀ k x, cs[k]? = some x → goneN ls k ≤ x.a + x.b
theorem heapOf_nil (cs : List Cell) : heapOf cs [] = heap0 cs := by
  simp [heapOf, heap0, goneN]
theorem heap0_length (cs : List Cell) : (heap0 cs).length = cs.length := by simp [heap0]
theorem heapOf_length (cs : List Cell) (ls : List (Int × Int)) : (heapOf cs ls).length = cs.length := by simp [heapOf]
theorem heapOf_get {cs : List Cell} {ls : List (Int × Int)} {k : Nat} {x : Cell} (h : cs[k]? = some x) : (heapOf cs ls)[k]? = some (((x.a + x.b : Nat) : Int) - (goneN ls k : Int), -(k : Int)) := by
  unfold heapOf; rw [List.getElem?_mapIdx, h]; rfl
theorem goneN_snoc (ls : List (Int × Int)) (b : Int) (k j : Nat) : goneN (ls ++ [(b, -(k : Int))]) j = goneN ls j + (if j = k then 1 else 0) := by
  unfold goneN
  rw [List.countP_append, List.countP_singleton]
  by_cases h : j = k
  · subst h; simp
  · rw [if_neg h, if_neg]
    simp only [beq_iff_eq]
    omega
theorem RI.start (cs : List Cell) : RI cs (hfy (heap0 cs) (cs.length / 2)) [] := by
  have := heapify_spec (heap0 cs)
  rw [heap0_length] at this
  refine ⟨?_, this.1, fun k x h => by simp [goneN]⟩
  rw [heapOf_nil]
  exact this.2
theorem RI.length {cs : List Cell} {xs ls : List (Int × Int)} (h : RI cs xs ls) : xs.length = cs.length := by rw [h.perm.length_eq]; simp [heapOf]
theorem RI.head {cs : List Cell} {xs ls : List (Int × Int)} (h : RI cs xs ls) (h0 : 0 < xs.length) (h1 : 0 < (hd0 xs).1) : ∃ k x, cs[k]? = some x ∧ hd0 xs = (((x.a + x.b : Nat) : Int) - (goneN ls k : Int), -(k : Int)) ∧ goneN ls k < x.a + x.b := by
  have hm : hd0 xs ∈ xs := by
    unfold hd0; rw [List.getD_eq_getElem?_getD, List.getElem?_eq_getElem h0]; exact List.getElem_mem h0
  obtain ⟨k, hk, e⟩ := List.mem_iff_getElem.mp (h.perm.mem_iff.mp hm)
  rw [heapOf_length] at hk
  have hx : cs[k]? = some cs[k] := List.getElem?_eq_getElem hk
  have h2 := heapOf_get (ls := ls) hx
  rw [List.getElem?_eq_getElem (by rw [heapOf_length]; exact hk), e] at h2
  have h3 := Option.some.inj h2
  refine ⟨k, _, hx, h3, ?_⟩
  rw [h3] at h1
  dsimp only at h1
  omega
theorem RI.step {cs : List Cell} {xs ls : List (Int × Int)} (h : RI cs xs ls) (h0 : 0 < xs.length) (h1 : 0 < (hd0 xs).1) : RI cs (sup (xs.set 0 ((hd0 xs).1 - 1, (hd0 xs).2)) 0) (ls ++ [hd0 xs]) := by
  obtain ⟨k, x, hx, e, hg⟩ := h.head h0 h1
  have hk : k < cs.length := (List.getElem?_eq_some_iff.mp hx).1
  have hh := h.heap
  refine ⟨((replace_spec hh h0 _).2).trans ?_, (replace_spec hh h0 _).1, fun j y hy => ?_⟩
  · have e2 : heapOf cs (ls ++ [hd0 xs]) = (heapOf cs ls).set k ((hd0 xs).1 - 1, (hd0 xs).2) := by
      apply List.ext_getElem?
      intro j
      by_cases hj : j < cs.length
      · have hy : cs[j]? = some cs[j] := List.getElem?_eq_getElem hj
        rw [heapOf_get hy, e, goneN_snoc]
        by_cases hjk : j = k
        · subst hjk
          rw [hx] at hy
          cases hy
          rw [List.getElem?_set_self (by rw [heapOf_length]; exact hj), if_pos rfl]
          congr 2
          omega
        · rw [List.getElem?_set_ne (Ne.symm hjk), heapOf_get (List.getElem?_eq_getElem hj), if_neg hjk]; rfl
      · rw [List.getElem?_eq_none (by rw [heapOf_length]; omega), List.getElem?_eq_none (by rw [List.length_set, heapOf_length]; omega)]
    rw [e2]
    obtain ⟨a, r, rfl⟩ : ∃ a r, xs = a :: r := by
      cases xs with
      | nil => exact absurd h0 (Nat.lt_irrefl _)
      | cons a r => exact ⟨a, r, rfl⟩
    have ha : hd0 (a :: r) = a := rfl
    rw [ha] at e ⊢
    have hget := heapOf_get (ls := ls) hx
    rw [← e] at hget
    have hkl : k < (heapOf cs ls).length := by rw [heapOf_length]; exact hk
    have hg2 : (heapOf cs ls)[k] = a := by
      rw [List.getElem?_eq_getElem hkl] at hget; exact Option.some.inj hget
    have p1 : (a :: r).Perm (a :: ((heapOf cs ls).take k ++ (heapOf cs ls).drop (k + 1))) := by
      refine h.perm.trans ?_
      have e3 : heapOf cs ls = (heapOf cs ls).take k ++ a :: (heapOf cs ls).drop (k + 1) := by
        rw [← hg2, ← List.drop_eq_getElem_cons hkl, List.take_append_drop]
      have p3 := List.perm_middle (a := a) (l₁ := (heapOf cs ls).take k) (l₂ := (heapOf cs ls).drop (k + 1))
      rw [← e3] at p3
      exact p3
    have p2 := p1.cons_inv
    show ((a.1 - 1, a.2) :: r).Perm _
    rw [List.set_eq_take_append_cons_drop, if_pos hkl]
    exact (p2.cons _).trans List.perm_middle.symm
  · rw [e, goneN_snoc]
    by_cases hjk : j = k
    · subst hjk
      rw [hx] at hy
      cases hy
      rw [if_pos rfl]; omega
    · rw [if_neg hjk]; exact h.le j y hy
theorem textsOf_nil (f c l : Int) (cs : List Cell) : textsOf f c l cs [] = wideOf f c l cs := by
  apply List.ext_getElem?
  intro j
  unfold textsOf wideOf
  rw [List.getElem?_mapIdx, List.getElem?_map]
  cases cs[j]? with
  | none => rfl
  | some x => simp [goneN]
theorem textsOf_get {f c l : Int} {cs : List Cell} {ls : List (Int × Int)} {k : Nat} {x : Cell} (h : cs[k]? = some x) : (textsOf f c l cs ls)[k]? = some (padL (x.a - goneN ls k) (partL f c l x.ds) (x.b - (goneN ls k - x.a))) := by
  unfold textsOf; rw [List.getElem?_mapIdx, h]; rfl
theorem textsOf_set {f c l : Int} {cs : List Cell} {ls : List (Int × Int)} {k : Nat} {x : Cell} (b : Int) (h : cs[k]? = some x) : textsOf f c l cs (ls ++ [(b, -(k : Int))]) = (textsOf f c l cs ls).set k (padL (x.a - (goneN ls k + 1)) (partL f c l x.ds) (x.b - (goneN ls k + 1 - x.a))) := by
  apply List.ext_getElem?
  intro j
  by_cases hjk : j = k
  · subst hjk
    rw [textsOf_get h, List.getElem?_set_self (by unfold textsOf; rw [List.length_mapIdx]; exact (List.getElem?_eq_some_iff.mp h).1), goneN_snoc, if_pos rfl]
  · rw [List.getElem?_set_ne (Ne.symm hjk)]
    unfold textsOf
    rw [List.getElem?_mapIdx, List.getElem?_mapIdx]
    simp only [goneN_snoc, if_neg hjk, Nat.add_zero]
theorem strsAre_get {vs : List Value} {ys : List Str} (h : StrsAre vs ys) {k : Nat} {z : List Nat} (hk : (ys.map (·.cps.toList))[k]? = some z) : ∃ y t, vs[k]? = some (.str y t) ∧ y.cps.toList = z := by
  induction h generalizing k with
  | nil => cases hk
  | @cons x vs ys u _ ih =>
    cases k with
    | zero => exact ⟨_, _, rfl, Option.some.inj hk⟩
    | succ k => exact ih hk
theorem strsAre_set {vs : List Value} {ys : List Str} (h : StrsAre vs ys) (k : Nat) (y : Str) (t : Tok) : StrsAre (vs.set k (.str y t)) (ys.set k y) := by
  induction h generalizing k with
  | nil => exact .nil
  | cons x u hr ih =>
    cases k with
    | zero => exact .cons y t hr
    | succ k => exact .cons x u (ih k)
structure CellOk (x : Cell) : Prop where
  a : x.a ≤ 3
  b : x.b ≤ 2
  ds : x.ds ≠ []
  len : x.ds.length ≤ 8
  ch : ∀ c ∈ x.ds, c ≠ 32 ∧ c ≠ 44
theorem item_at {prog : Program} {w : World} {A : Around} {E : Value → Shared → Prop} {s : Shared} {l : Addr} {vs : List Value} {value slice : PySem.Expr} {k : Int} {u : Tok} {v : Value} {Q : Value → Shared → Prop}
    (hl : s.heap.IsList l vs.toArray) (h0 : 0 ≤ k) (hhi : k < 2 ^ 63) (hx : vs[k.toNat]? = some v) (h : Q v s)
    (hs : subscripted slice false (.ref l) (.int k u) = operate [.ref l, .int k u] (getItem (.ref l) (.int k u)) := by with_unfolding_all rfl) :
    wpAny (model prog w) A (subscriptTail value slice (.ref l) (.int k u)) Q E s :=
  tail_any hl.typeIs slot_list_getitem.lookup (wpAny_getItem_list hl h0 hhi (by simpa using hx) h) hs
theorem back0 {h₀ h h' : Heap} {L : Addr} {m : Str → Option Value} {news : List (Addr × Obj)} (F : Fr h₀ L h m) (N : News h₀ L h news) (e : Ev [] h h') : Fr h₀ L h' m ∧ News h₀ L h' news :=
  ⟨fr_ev F News.nil e, fun p hp => ⟨e _ _ (N p hp).1 (by simp), (N p hp).2⟩⟩
theorem mul_blank {prog : Program} {w : World} {A : Around} {E : Value → Shared → Prop} {s : Shared} {n : Int} {t u : Tok} {Q : Value → Shared → Prop} (k : Nat) (hn : n.toNat = k) (hn1 : n ≤ 1000) (hn2 : -1000 ≤ n)
    (h : ∀ y tk t', y.cps.toList = List.replicate k 32 → Q (.str y t') { s with toks := tk }) : wpAny (model prog w) A (binaryOp .Mult (.str (Str.ofString " ") t) (.int n u)) Q E s := by
  have e : Str.ofString " " = ⟨#[32]⟩ := by decide
  refine SB.mul (mulOk_of 16 1048576 (by decide) (by omega) (by omega) (by decide) (by decide)) fun t' k' => h _ _ _ ?_
  rw [e, mul_one_list, hn]
theorem add_gen {prog : Program} {w : World} {A : Around} {E : Value → Shared → Prop} {s : Shared} {x y : Str} {t u : Tok} {Q : Value → Shared → Prop} {a b : List Nat} (ha : x.cps.toList = a) (hb : y.cps.toList = b) (hl : a.length + b.length ≤ 10000)
    (h : ∀ z tk t', z.cps.toList = a ++ b → Q (.str z t') { s with toks := tk }) : wpAny (model prog w) A (binaryOp .Add (.str x t) (.str y u)) Q E s := by
  refine PyProof.Rows.add_str (fun t' tk => h _ _ _ ?_) ?_
  · show (x.cps ++ y.cps).toList = _
    rw [Array.toList_append, ha, hb]
  · subst ha hb
    have e1 : x.length = x.cps.toList.length := by simp [Str.length]
    have e2 : y.length = y.cps.toList.length := by simp [Str.length]
    rw [sizeLine_eq]; omega
theorem PairsAt.keepsT {h h' : Heap} {vs : List Value} {xs : List (Int × Int)} (p : PairsAt h vs xs) (k : ∀ b o, h.get? b = some o → TupO o → h'.get? b = some o) : PairsAt h' vs xs := by
  induction p with
  | nil => exact .nil
  | cons h1 _ ih =>
    obtain ⟨a, t, u, n, e, q⟩ := h1
    exact .cons ⟨a, t, u, n, e, k _ _ q ⟨rfl, _, _, rfl⟩⟩ ih
theorem take_snoc {α : Type} {xs : List α} {i : Nat} {x : α} (h : xs[i]? = some x) : xs.take (i + 1) = xs.take i ++ [x] := by rw [List.take_add_one, h]; rfl
theorem comN_snoc {f c l : Int} {cs : List Cell} {i : Nat} {x : Cell} (h : cs[i]? = some x) : comN f c l (cs.take (i + 1)) = comN f c l (cs.take i) + (((partL f c l x.ds).length : Int) - x.ds.length) := by
  unfold comN; rw [take_snoc h, List.map_append, List.sum_append]; simp
theorem wideOf_snoc {f c l : Int} {cs : List Cell} {i : Nat} {x : Cell} (h : cs[i]? = some x) : wideOf f c l (cs.take (i + 1)) = wideOf f c l (cs.take i) ++ [padL x.a (partL f c l x.ds) x.b] := by
  unfold wideOf; rw [take_snoc h, List.map_append]; rfl
theorem heap0_snoc {cs : List Cell} {i : Nat} {x : Cell} (h : cs[i]? = some x) : heap0 (cs.take (i + 1)) = heap0 (cs.take i) ++ [((x.a : Int) + x.b, -(i : Int))] := by
  have hi : i < cs.length := (List.getElem?_eq_some_iff.mp h).1
  unfold heap0; rw [take_snoc h, List.mapIdx_append]
  simp [Nat.min_eq_left (Nat.le_of_lt hi)]
theorem copy_led {prog : Program} {w : World} {A : Around} {E : Value → Shared → Prop} {s : Shared} {h₀ : Heap} {L l : Addr} {m : Str → Option Value} {news : List (Addr × Obj)} {vs : List Value} {n : Nat} {Q : Value → Shared → Prop} (F : Fr h₀ L s.heap m) (N : News h₀ L s.heap news) (nd : Nd news)
    (hl : s.heap.get? l = some (listOf vs.toArray n)) (hv : vs.length ≤ 10000)
    (h : ∀ D h' c, Fr h₀ L h' m → News h₀ L h' ((D, listOf vs.toArray c) :: news) → Nd ((D, listOf vs.toArray c) :: news) → Q (.ref D) { s with heap := h' }) : wpAny (model prog w) A (call (.type "list") [.ref l]) Q E s := by
  refine call_list_seq (hsz := by rw [List.size_toArray, sizeLine_eq]; omega) l (.inl rfl) hl rfl rfl fun h' c' hk hD => h _ h' c' (F.kept hk) (fun p hp => ?_) (nd_push N nd)
  rcases List.mem_cons.mp hp with rfl | hp
  · exact ⟨hD, Nat.ne_of_gt F.ns.lt, Heap.get?_none_of_le (Nat.le_trans F.above (Nat.le_of_lt F.ns.lt))⟩
  · exact ⟨hk _ _ (N p hp).1, (N p hp).2⟩
theorem storeC_led {M : Model} {A : Around} {E : Value → Shared → Prop} {s : Shared} {h₀ : Heap} {L a : Addr} {m : Str → Option Value} {cn : Str} {cs : Scope} {ccd : Value} {cl : List (Str × Addr)}
  {x : Str} {v : Value} {Q : Unit → Shared → Prop} {pre post : List (Addr × Obj)} {c : Addr} {o : Obj} {v₀ : Option Value} (F : Fr h₀ L s.heap m) (N : News h₀ L s.heap (pre ++ (c, o) :: post)) (nd : Nd (pre ++ (c, o) :: post)) (hc : cl.lookup x = some c) (hd : o.data = .cell v₀)
    (h : ∀ h' o', Fr h₀ L h' m → News h₀ L h' (pre ++ (c, o') :: post) → Nd (pre ++ (c, o') :: post) → o'.data = .cell (some v) → Q () { s with heap := h' })
    (hk : cs.kind = .function := by rfl) (hx : (envX cn cs L a ccd cl).kindOf x = some .cell := by rfl) : wpAny M A (storeName (envX cn cs L a ccd cl) x v) Q E s := by
  have hmem := N (c, o) (List.mem_append_right _ (.head _))
  refine wpAny_storeName_cell hk hx hc ⟨o, hmem.1, hd⟩ fun h' hv hs => ?_
  obtain ⟨o', ho', hd'⟩ := hv
  refine h h' o' ⟨F.ns.sameBut hs (Ne.symm hmem.2.1), fun b ob e => (hs.2 b (fun q => ?_)).trans (F.keep b ob e), F.above⟩ (N.setAt (nd_pre nd) (nd_post nd) hs ho') (nd_set nd) hd'
  rw [q, hmem.2.2] at e; cases e
theorem comN_nonneg {f c l : Int} {cs : List Cell} (hf : 1 ≤ f ∧ f ≤ 3) (hc : 1 ≤ c ∧ c ≤ 3) (hl : l = 0 ∨ l = 127 ∨ l = 2) (hok : ∀ x ∈ cs, CellOk x) : 0 ≤ comN f c l cs := by
  unfold comN
  induction cs with
  | nil => simp
  | cons x r ih =>
    have h1 := partL_len hf hc hl (hok x (.head _)).len (hok x (.head _)).ds
    have h2 := ih fun y hy => hok y (.tail _ hy)
    simp only [List.map_cons, List.sum_cons]
    omega
theorem comN_le {f c l : Int} {cs : List Cell} (hf : 1 ≤ f ∧ f ≤ 3) (hc : 1 ≤ c ∧ c ≤ 3) (hl : l = 0 ∨ l = 127 ∨ l = 2) (hok : ∀ x ∈ cs, CellOk x) : comN f c l cs ≤ 16 * cs.length := by
  unfold comN
  induction cs with
  | nil => simp
  | cons x r ih =>
    have h1 := partL_len hf hc hl (hok x (.head _)).len (hok x (.head _)).ds
    have h2 := ih fun y hy => hok y (.tail _ hy)
    simp only [List.map_cons, List.sum_cons, List.length_cons]
    omega
theorem item_p0 {prog : Program} {w : World} {A : Around} {E : Value → Shared → Prop} {s : Shared} {a : Addr} {x : Int × Int} {t u v : Tok} {n : Nat} {value slice : PySem.Expr} {Q : Value → Shared → Prop} (ha : s.heap.get? a = some (pairObj x t u n)) (h : Q (.int x.1 t) s)
    (hs : subscripted slice false (.ref a) (.int 0 v) = operate [.ref a, .int 0 v] (getItem (.ref a) (.int 0 v)) := by with_unfolding_all rfl) : wpAny (model prog w) A (subscriptTail value slice (.ref a) (.int 0 v)) Q E s :=
  item_tupleT (l := [.int x.1 t, .int x.2 u]) (j := 0) ⟨_, ha, rfl, _, rfl⟩ (by decide) (by decide) rfl rfl h hs
theorem item_p1 {prog : Program} {w : World} {A : Around} {E : Value → Shared → Prop} {s : Shared} {a : Addr} {x : Int × Int} {t u v : Tok} {n : Nat} {value slice : PySem.Expr} {Q : Value → Shared → Prop} (ha : s.heap.get? a = some (pairObj x t u n)) (h : Q (.int x.2 u) s)
    (hs : subscripted slice false (.ref a) (.int 1 v) = operate [.ref a, .int 1 v] (getItem (.ref a) (.int 1 v)) := by with_unfolding_all rfl) : wpAny (model prog w) A (subscriptTail value slice (.ref a) (.int 1 v)) Q E s :=
  item_tupleT (l := [.int x.1 t, .int x.2 u]) (j := 1) ⟨_, ha, rfl, _, rfl⟩ (by decide) (by decide) rfl rfl h hs
theorem set_ledN {prog : Program} {w : World} {A : Around} {E : Value → Shared → Prop} {s : Shared} {h₀ : Heap} {L D : Addr} {m : Str → Option Value} {pre post : List (Addr × Obj)} {vs : List Value} {n : Nat} {k : Int} {t : Tok} {v : Value} {Q : Unit → Shared → Prop}
    (F : Fr h₀ L s.heap m) (N : News h₀ L s.heap (pre ++ (D, listOf vs.toArray n) :: post)) (nd : Nd (pre ++ (D, listOf vs.toArray n) :: post)) (h0 : 0 ≤ k) (h1 : k < vs.length) (hfit : k < 2 ^ 63)
    (h : ∀ h', Fr h₀ L h' m → News h₀ L h' (pre ++ (D, listOf (vs.set k.toNat v).toArray n) :: post) → Nd (pre ++ (D, listOf (vs.set k.toNat v).toArray n) :: post) → Q () { s with heap := h' }) :
    wpAny (model prog w) A (setItem (.ref D) (.int k t) v) Q E s := set_led F N (nd_pre nd) (nd_post nd) h0 h1 hfit fun h' F' N' => h h' F' N' (nd_set nd)
theorem news_tail {h₀ h : Heap} {L : Addr} {p : Addr × Obj} {l : List (Addr × Obj)} (N : News h₀ L h (p :: l)) : News h₀ L h l := fun q hq => N q (.tail _ hq)
theorem nd_tail {p : Addr × Obj} {l : List (Addr × Obj)} (nd : Nd (p :: l)) : Nd l := (List.nodup_cons.mp nd).2
theorem nt_cls {o : Obj} (h : o.cls ≠ .type "tuple") : ¬ TupO o := fun q => h q.1
theorem nt_cell {o : Obj} {v : Option Value} (h : o.data = .cell v) : ¬ TupO o := fun q => by obtain ⟨a, n, e⟩ := q.2; rw [h] at e; cases e
theorem nt0 : ∀ p ∈ ([] : List (Addr × Obj)), ¬ TupO p.2 := fun _ h => nomatch h
theorem nt1 {a : Addr} {o : Obj} {own : List (Addr × Obj)} (h : ¬ TupO o) (r : ∀ p ∈ own, ¬ TupO p.2) : ∀ p ∈ (a, o) :: own, ¬ TupO p.2 := List.forall_mem_cons.mpr ⟨h, r⟩
theorem tup_off2 {g h : Heap} {L : Addr} {m : Str → Option Value} {own : List (Addr × Obj)} (F : Fr g L h m) (N : News g L h own) (hc : ∀ p ∈ own, ¬ TupO p.2) {b : Addr} {o : Obj} (e : h.get? b = some o) (ho : TupO o) : b ∉ L :: own.map (·.1) := by
  intro q
  rcases List.mem_cons.mp q with q | q
  · obtain ⟨oL, es, ep, hL, hd, _⟩ := F.ns
    rw [q, hL] at e
    cases e
    obtain ⟨a, n, hd'⟩ := ho.2
    rw [hd] at hd'; cases hd'
  · obtain ⟨p, hp, rfl⟩ := List.mem_map.mp q
    rw [(N p hp).1] at e
    cases e
    exact hc p hp ho
end Mine
end

/-! part LH -/
section
open PySem PySem.W PySem.Calls PyProof.Rows
set_option Elab.async false
set_option maxRecDepth 100000
set_option maxHeartbeats 2000000
namespace Mine
theorem iadd_led {prog : Program} {w : World} {A : Around} {E : Value → Shared → Prop} {s : Shared} {h₀ : Heap} {L D b : Addr} {m : Str → Option Value} {pre post : List (Addr × Obj)} {vs vs2 : List Value} {n n2 : Nat} {Q : Value → Shared → Prop}
    (F : Fr h₀ L s.heap m) (N : News h₀ L s.heap (pre ++ (D, listOf vs.toArray n) :: post)) (nd : Nd (pre ++ (D, listOf vs.toArray n) :: post)) (hb : s.heap.get? b = some (listOf vs2.toArray n2)) (hv : vs.length + vs2.length ≤ 10000)
    (h : ∀ h' n', Fr h₀ L h' m → News h₀ L h' (pre ++ (D, listOf (vs ++ vs2).toArray n') :: post) → Nd (pre ++ (D, listOf (vs ++ vs2).toArray n') :: post) → Q (.ref D) { s with heap := h' }) :
    wpAny (model prog w) A (inplaceOp .Add (.ref D) (.ref b)) Q E s := by
  have z := N (D, listOf vs.toArray n) (List.mem_append.mpr (.inr (.head _)))
  have hTa : s.TypeIs (.ref D) "list" := ⟨_, z.1, rfl⟩
  have hTb : s.TypeIs (.ref b) "list" := ⟨_, hb, rfl⟩
  have hsq : isSeqSlot (some (.builtin "list.__iadd__")) = true := by decide +kernel
  have hfi : fillsInplaceSlot (.type "list") "add" (Operator.Add == .Add) = pure false := by
    unfold fillsInplaceSlot
    show (typeLookup (.type "list") (dunderI "add") >>= fun fi => pure (fi.isSome && !isSeqSlot fi)) = pure false
    rw [PySem.F.slot_list_iadd.lookup, pure_bind, hsq]; rfl
  unfold inplaceOp
  refine wpAny_holding ?_
  refine wpAny_bind (wpAny_typeOf hTa (wpAny_bind (wpAny_of_eq hfi ?_)))
  show wpAny _ A (if false = true then _ else _) Q E s
  rw [if_neg Bool.false_ne_true]
  refine wpAny_bind (wpAny_binaryOp1_none (nm := "add") hTa hTb noFill_list_add ?_)
  refine wpAny_bind (wpAny_of_eq (PySem.seqSlot_of PySem.F.slot_list_iadd.lookup hsq) ?_)
  refine wpAny_bind (wpAny_rule ?_)
  obtain ⟨e1, ho1⟩ : ∃ e1, (s.heap.update D (Obj.mapSeq fun x => x ++ vs2.toArray)).get? D = some (seqObj "list" (vs.toArray ++ vs2.toArray) e1) := ⟨_, get?_update_seq z.1 fun x => x ++ vs2.toArray⟩
  refine call_meets PySem.F.slot_list_iadd hTa PySem.F.entry_list_iadd (PySem.F.args_list_iadd_2 _ _) (PySem.AutoSeq1.list___iadd___list_list_0 D vs.toArray n b vs2.toArray n2 ?_ ?_ ?_) ⟨z.1, hb, ?_⟩
  · exact extend_door (by rw [List.size_toArray, List.size_toArray, sizeLine_eq]; omega)
  · rw [List.size_toArray, sizeLine_eq]; omega
  · rw [List.size_toArray, List.size_toArray, sizeLine_eq]; omega
  · have hs := Heap.SameBut.update s.heap D (Obj.mapSeq fun x => x ++ vs2.toArray)
    refine h _ e1 (F.change hs z.2.1 z.2.2) (N.setAt (nd_pre nd) (nd_post nd) hs ?_) (nd_set nd)
    rw [ho1]; simp [seqObj, W.listOf]
theorem cells1 {cm : Str → Option Value} {n : Str} {c : Addr} {cells : List (Addr × Obj)} (x : CellsAre cm [(n, c)] cells) : ∃ o, cells = [(c, o)] ∧ o.data = .cell (cm n) := by
  cases x with | cons h r => cases r; exact ⟨_, rfl, h⟩
noncomputable def comT (f c l : Int) (cs : List Cell) : Int := (cs.map fun x => cp f c l x.ds (x.ds.length - 1)).sum
noncomputable def logRow (k : Nat) (n : Nat) : List (Int × Int) := (List.range n).map fun (j : Nat) => ((j : Int) + 1, -(k : Int))
noncomputable def logAll (cs : List Cell) : List (Int × Int) := (cs.mapIdx fun k x => logRow k (x.a + x.b)).flatten
noncomputable def tTexts (f c l : Int) (cs : List Cell) (ls : List (Int × Int)) : List (List Nat) := cs.mapIdx fun k x => padL (x.a - goneN ls k) (toldL f c l x.ds) (x.b - (goneN ls k - x.a))
theorem logAll_snoc {cs : List Cell} {i : Nat} {x : Cell} (h : cs[i]? = some x) : logAll (cs.take (i + 1)) = logAll (cs.take i) ++ logRow i (x.a + x.b) := by
  have hi : i < cs.length := (List.getElem?_eq_some_iff.mp h).1
  unfold logAll; rw [take_snoc h, List.mapIdx_append, List.flatten_append]
  simp [Nat.min_eq_left (Nat.le_of_lt hi)]
theorem comT_snoc {f c l : Int} {cs : List Cell} {i : Nat} {x : Cell} (h : cs[i]? = some x) : comT f c l (cs.take (i + 1)) = comT f c l (cs.take i) + cp f c l x.ds (x.ds.length - 1) := by
  unfold comT; rw [take_snoc h, List.map_append, List.sum_append]; simp
theorem logAll_len {cs : List Cell} (hok : ∀ x ∈ cs, CellOk x) : ∀ i, i ≤ cs.length → (logAll (cs.take i)).length ≤ 5 * i
  | 0, _ => by simp [logAll]
  | i + 1, h => by
    have hx : cs[i]? = some cs[i] := List.getElem?_eq_getElem h
    have h1 := logAll_len hok i (Nat.le_of_succ_le h)
    have h2 := hok _ (List.getElem_mem h)
    have h3 := h2.a
    have h4 := h2.b
    rw [logAll_snoc hx, List.length_append]
    simp only [logRow, List.length_map, List.length_range]
    omega
theorem tp_zero {f c l : Int} {ds : List Nat} (h : 0 < ds.length) : (⟨#[ds.getD 0 0]⟩ : Str).cps.toList = tp f c l ds 0 := by
  cases ds with
  | nil => exact absurd h (Nat.lt_irrefl _)
  | cons d r => rfl
theorem item_strI {prog : Program} {w : World} {A : Around} {E : Value → Shared → Prop} {s : Shared} {value slice : Expr} {x : Str} {t u : Tok} {i c : Nat} {k : Int} {Q : Value → Shared → Prop} (hk : k = (i : Int)) (hi : x.cps.toList[i]? = some c) (hs1 : i < 2 ^ 62) (h : ∀ tk t', Q (.str ⟨#[c]⟩ t') { s with toks := tk })
    (hs : subscripted slice false (.str x t) (.int k u) = operate [.str x t, .int k u] (getItem (.str x t) (.int k u)) := by with_unfolding_all rfl)
    (ht : ∀ r, letTemporaryGo value (.str x t) r = pure () := by intro _; with_unfolding_all rfl) :
    wpAny (model prog w) A (subscriptTail value slice (.str x t) (.int k u)) Q E s := by
  subst hk
  exact item_strM hi hs1 h hs ht
theorem iadd_gen {prog : Program} {w : World} {A : Around} {E : Value → Shared → Prop} {s : Shared} {x y : Str} {t u : Tok} {Q : Value → Shared → Prop} {a b : List Nat} (ha : x.cps.toList = a) (hb : y.cps.toList = b) (hl : a.length + b.length ≤ 10000)
    (h : ∀ z tk t', z.cps.toList = a ++ b → Q (.str z t') { s with toks := tk }) : wpAny (model prog w) A (inplaceOp .Add (.str x t) (.str y u)) Q E s := by
  refine PyProof.Rows.iadd_str (fun t' tk => h _ _ _ ?_) ?_
  · show (x.cps ++ y.cps).toList = _
    rw [Array.toList_append, ha, hb]
  · subst ha hb
    have e1 : x.length = x.cps.toList.length := by simp [Str.length]
    have e2 : y.length = y.cps.toList.length := by simp [Str.length]
    rw [sizeLine_eq]; omega
theorem nt_ns {o : Obj} {m : Str → Option Value} (h : LCg.NsObj o m) : ¬ TupO o := fun q => by
  obtain ⟨a, n, e⟩ := q.2
  obtain ⟨es, ep, e2, _⟩ := h
  rw [e2] at e; cases e
theorem mem_logRow {k n : Nat} {p : Int × Int} (h : p ∈ logRow k n) : ∃ j, j < n ∧ p = ((j : Int) + 1, -(k : Int)) := by
  obtain ⟨j, hj, e⟩ := List.mem_map.mp h
  exact ⟨j, List.mem_range.mp hj, e.symm⟩
theorem logRow_nodup (k n : Nat) : (logRow k n).Nodup := by
  unfold logRow
  rw [List.Nodup, List.pairwise_map]
  refine List.Pairwise.imp (fun {a b} hab e => ?_) (List.nodup_range (n := n))
  have := congrArg Prod.fst e
  have h2 : (a : Int) + 1 = (b : Int) + 1 := this
  exact hab (by omega)
theorem logAll_facts (cs : List Cell) : ∀ i, i ≤ cs.length → (logAll (cs.take i)).Nodup ∧ ∀ p ∈ logAll (cs.take i), -(i : Int) < p.2 ∧ p.2 ≤ 0
  | 0, _ => by simp [logAll]
  | i + 1, h => by
    have hx : cs[i]? = some cs[i] := List.getElem?_eq_getElem h
    obtain ⟨h1, h2⟩ := logAll_facts cs i (Nat.le_of_succ_le h)
    rw [logAll_snoc hx]
    refine ⟨List.nodup_append.mpr ⟨h1, logRow_nodup _ _, fun a ha b hb e => ?_⟩, fun p hp => ?_⟩
    · obtain ⟨j, _, hj⟩ := mem_logRow hb
      have h3 := h2 a ha
      rw [e, hj] at h3
      exact absurd h3.1 (Int.lt_irrefl _)
    · rcases List.mem_append.mp hp with q | q
      · have := h2 p q; omega
      · obtain ⟨j, _, hj⟩ := mem_logRow q
        rw [hj]; dsimp only; omega
theorem cp_nonneg (f c l : Int) (ds : List Nat) : ∀ n, 0 ≤ cp f c l ds n
  | 0 => Int.le_refl _
  | n + 1 => by
    have := cp_nonneg f c l ds n
    rw [cp]; split <;> omega
theorem comT_nonneg (f c l : Int) (cs : List Cell) : 0 ≤ comT f c l cs := by
  unfold comT
  induction cs with
  | nil => simp
  | cons x r ih =>
    have := cp_nonneg f c l x.ds (x.ds.length - 1)
    simp only [List.map_cons, List.sum_cons]
    omega
theorem tTexts_get {f c l : Int} {cs : List Cell} {ls : List (Int × Int)} {k : Nat} {x : Cell} (h : cs[k]? = some x) : (tTexts f c l cs ls)[k]? = some (padL (x.a - goneN ls k) (toldL f c l x.ds) (x.b - (goneN ls k - x.a))) := by
  unfold tTexts; rw [List.getElem?_mapIdx, h]; rfl
theorem PairsAt.reverse {h : Heap} {vs : List Value} {xs : List (Int × Int)} (p : PairsAt h vs xs) : PairsAt h vs.reverse xs.reverse := by
  induction p with
  | nil => exact .nil
  | cons h1 _ ih => rw [List.reverse_cons, List.reverse_cons]; exact ih.append (.cons h1 .nil)
theorem PairsAt.take {h : Heap} {vs : List Value} {xs : List (Int × Int)} (p : PairsAt h vs xs) (n : Nat) : PairsAt h (vs.take n) (xs.take n) := by
  induction p generalizing n with
  | nil => simp; exact .nil
  | cons h1 _ ih =>
    cases n with
    | zero => exact .nil
    | succ n => exact .cons h1 (ih n)
theorem item_c0 {prog : Program} {w : World} {A : Around} {E : Value → Shared → Prop} {s : Shared} {ad : Addr} {a b : Int} {y : Str} {t u v q : Tok} {n : Nat} {value slice : PySem.Expr} {Q : Value → Shared → Prop} (ha : s.heap.get? ad = some (cellObj a y b t u v n)) (h : Q (.int a t) s)
    (hs : subscripted slice false (.ref ad) (.int 0 q) = operate [.ref ad, .int 0 q] (getItem (.ref ad) (.int 0 q)) := by with_unfolding_all rfl) : wpAny (model prog w) A (subscriptTail value slice (.ref ad) (.int 0 q)) Q E s :=
  item_tupleT (l := [.int a t, .str y u, .int b v]) (j := 0) ⟨_, ha, rfl, _, rfl⟩ (by decide) (by decide) rfl rfl h hs
theorem item_c2 {prog : Program} {w : World} {A : Around} {E : Value → Shared → Prop} {s : Shared} {ad : Addr} {a b : Int} {y : Str} {t u v q : Tok} {n : Nat} {value slice : PySem.Expr} {Q : Value → Shared → Prop} (ha : s.heap.get? ad = some (cellObj a y b t u v n)) (h : Q (.int b v) s)
    (hs : subscripted slice false (.ref ad) (.int 2 q) = operate [.ref ad, .int 2 q] (getItem (.ref ad) (.int 2 q)) := by with_unfolding_all rfl) : wpAny (model prog w) A (subscriptTail value slice (.ref ad) (.int 2 q)) Q E s :=
  item_tupleT (l := [.int a t, .str y u, .int b v]) (j := 2) ⟨_, ha, rfl, _, rfl⟩ (by decide) (by decide) rfl rfl h hs
theorem tp_len (f c l : Int) (ds : List Nat) : ∀ n, (tp f c l ds n).length ≤ 2 * n + 1
  | 0 => by rw [tp, List.length_take]; omega
  | n + 1 => by
    have := tp_len f c l ds n
    rw [tp, List.length_append, List.length_append]
    split <;> simp <;> omega
theorem toldL_len {f c l : Int} {ds : List Nat} : (toldL f c l ds).length ≤ 2 * ds.length + 1 := by
  have := tp_len f c l ds (ds.length - 1)
  unfold toldL; omega
/-! the run's log is the told one -/
noncomputable def rowP (p : Int × Int) : List (Int × Int) := (List.range p.1.toNat).map fun (j : Nat) => ((j : Int) + 1, p.2)
noncomputable def allP (xs : List (Int × Int)) : List (Int × Int) := xs.flatMap rowP
theorem allP_heap0 (cs : List Cell) : allP (heap0 cs) = logAll cs := by
  unfold allP logAll
  rw [List.flatMap_def]
  congr 1
  apply List.ext_getElem?
  intro j
  unfold heap0
  rw [List.getElem?_map, List.getElem?_mapIdx, List.getElem?_mapIdx]
  cases cs[j]? with
  | none => rfl
  | some x =>
    show some (rowP (((x.a + x.b : Nat) : Int), -(j : Int))) = some (logRow j (x.a + x.b))
    unfold rowP logRow
    rw [Int.toNat_natCast]
theorem mem_allP {xs : List (Int × Int)} {q : Int × Int} (h : q ∈ allP xs) : ∃ p ∈ xs, le2 q p ∧ 0 < p.1 := by
  obtain ⟨p, hp, hq⟩ := List.mem_flatMap.mp h
  obtain ⟨j, hj, e⟩ := List.mem_map.mp hq
  have := List.mem_range.mp hj
  refine ⟨p, hp, ?_, by omega⟩
  rw [← e]; unfold le2; dsimp only; omega
theorem rowP_succ {p : Int × Int} (h : 0 < p.1) : rowP p = rowP (p.1 - 1, p.2) ++ [p] := by
  unfold rowP
  obtain ⟨n, hn⟩ : ∃ n : Nat, p.1 = (n : Int) + 1 := ⟨(p.1 - 1).toNat, by omega⟩
  rw [hn, show ((n : Int) + 1).toNat = n + 1 by omega, List.range_succ, List.map_append]
  dsimp only
  rw [show ((n : Int) + 1 - 1).toNat = n by omega, List.map_singleton, ← hn]
theorem run_eq : ∀ (n : Nat) (xs ls D : List (Int × Int)), HeapFrom 0 xs → 0 < xs.length → D.Perm (allP xs) → D.Pairwise (fun x y => plt y x = true) → runGo n xs ls = ls ++ D.take n
  | 0, xs, ls, D, _, _, _, _ => by simp [runGo]
  | n + 1, xs, ls, D, hh, h0, hp, hs => by
    unfold runGo
    have hmax : ∀ q ∈ xs, le2 q (hd0 xs) := fun q hq => by
      obtain ⟨j, hj, e⟩ := List.mem_iff_getElem.mp hq
      rw [← e, ← gx_get hj]; exact head_max hh j hj
    split
    · rename_i hpos
      have hmem : hd0 xs ∈ xs := by
        unfold hd0; rw [List.getD_eq_getElem?_getD, List.getElem?_eq_getElem h0]; exact List.getElem_mem h0
      have hall : hd0 xs ∈ allP xs := List.mem_flatMap.mpr ⟨_, hmem, by rw [rowP_succ hpos]; exact List.mem_append.mpr (.inr (.head _))⟩
      have htop : ∀ q ∈ allP xs, le2 q (hd0 xs) := fun q hq => by
        obtain ⟨p, hp, h1, _⟩ := mem_allP hq
        exact le2_trans h1 (hmax p hp)
      cases D with
      | nil => exact absurd (hp.mem_iff.mpr hall) (by simp)
      | cons d D' =>
        have hd : d = hd0 xs := by
          rcases List.mem_cons.mp (hp.mem_iff.mpr hall) with q | q
          · exact q.symm
          · have h1 := plt_iff.mp ((List.pairwise_cons.mp hs).1 _ q)
            exact absurd (htop d (hp.mem_iff.mp (.head _))) h1
        subst hd
        have hnew := replace_spec hh h0 ((hd0 xs).1 - 1, (hd0 xs).2)
        have hp' : D'.Perm (allP (sup (xs.set 0 ((hd0 xs).1 - 1, (hd0 xs).2)) 0)) := by
          refine List.Perm.trans ?_ (hnew.2.flatMap_right rowP).symm
          obtain ⟨a, r, rfl⟩ : ∃ a r, xs = a :: r := by
            cases xs with
            | nil => exact absurd h0 (Nat.lt_irrefl _)
            | cons a r => exact ⟨a, r, rfl⟩
          have ha : hd0 (a :: r) = a := rfl
          rw [ha] at hp hpos ⊢
          show D'.Perm (allP ((a.1 - 1, a.2) :: r))
          unfold allP at hp ⊢
          rw [List.flatMap_cons] at hp ⊢
          rw [rowP_succ hpos, List.append_assoc] at hp
          exact (hp.trans List.perm_middle).cons_inv
        rw [run_eq n _ _ D' hnew.1 (by rw [sup_length, List.length_set]; exact h0) hp' (List.pairwise_cons.mp hs).2, List.take_succ_cons, List.append_assoc]
        rfl
    · rename_i hpos
      have he : D = [] := by
        cases D with
        | nil => rfl
        | cons d D' =>
          obtain ⟨p, hp2, _, h2⟩ := mem_allP (hp.mem_iff.mp (.head _))
          have := hmax p hp2
          unfold le2 at this
          omega
      rw [he]; simp
theorem runLog_eq {f c l : Int} {cs : List Cell} {S : List (Int × Int)} (h0 : 0 < cs.length) (hp : S.Perm (logAll cs)) (hs : S.Pairwise (fun x y => plt x y = true)) : runLog f c l cs = S.reverse.take (comN f c l cs).toNat := by
  have hh := heapify_spec (heap0 cs)
  rw [heap0_length] at hh
  unfold runLog
  rw [run_eq _ _ [] S.reverse hh.1 (by rw [hh.2.length_eq, heap0_length]; exact h0) ?_ ?_, List.nil_append]
  · refine (List.reverse_perm S).trans (hp.trans ?_)
    rw [← allP_heap0]
    exact (hh.2.flatMap_right rowP).symm
  · rw [List.pairwise_reverse]; exact hs
theorem comN_eq {f c l : Int} {cs : List Cell} (hf : 1 ≤ f ∧ f ≤ 3) (hc : 1 ≤ c ∧ c ≤ 3) (hl : l = 0 ∨ l = 127 ∨ l = 2) (hok : ∀ x ∈ cs, CellOk x) : comN f c l cs = comT f c l cs := by
  unfold comN comT
  congr 1
  refine List.map_congr_left fun x hx => ?_
  have h := hok x hx
  rw [partL_eq hf hc hl h.len h.ds]
  have := told_len (f := f) (c := c) (l := l) h.ds
  omega
theorem texts_eq {f c l : Int} {cs : List Cell} (ls : List (Int × Int)) (hf : 1 ≤ f ∧ f ≤ 3) (hc : 1 ≤ c ∧ c ≤ 3) (hl : l = 0 ∨ l = 127 ∨ l = 2) (hok : ∀ x ∈ cs, CellOk x) : textsOf f c l cs ls = tTexts f c l cs ls := by
  apply List.ext_getElem?
  intro j
  unfold textsOf tTexts
  rw [List.getElem?_mapIdx, List.getElem?_mapIdx]
  cases hx : cs[j]? with
  | none => rfl
  | some x =>
    have h := hok x (List.mem_of_getElem? hx)
    show some (padL _ (partL f c l x.ds) _) = some (padL _ (toldL f c l x.ds) _)
    rw [partL_eq hf hc hl h.len h.ds]
end Mine
end

/-! part SO -/
section
open PySem PySem.W PySem.Calls PyProof.Rows
set_option Elab.async false
set_option maxRecDepth 100000
set_option maxHeartbeats 2000000
namespace Mine
/-! the sorting tree, asked by a fixed answer -/
noncomputable def okT {α : Type} (n : Nat) (lt : Nat → Nat → Bool) : KasT α → (α → Prop) → Prop
  | .ret a, Q => Q a
  | .ask i j k, Q => i < n ∧ j < n ∧ okT n lt (k (lt i j)) Q
theorem okT_bind {α β : Type} {n : Nat} {lt : Nat → Nat → Bool} {f : α → KasT β} {Q : β → Prop} : ∀ (t : KasT α), okT n lt t (fun a => okT n lt (f a) Q) → okT n lt (t.bind f) Q
  | .ret _, h => h
  | .ask i j k, h => ⟨h.1, h.2.1, okT_bind (k (lt i j)) h.2.2⟩
theorem okT_mono {α : Type} {n : Nat} {lt : Nat → Nat → Bool} {Q Q' : α → Prop} (hq : ∀ a, Q a → Q' a) : ∀ (t : KasT α), okT n lt t Q → okT n lt t Q'
  | .ret _, h => hq _ h
  | .ask i j k, h => ⟨h.1, h.2.1, okT_mono hq (k (lt i j)) h.2.2⟩
theorem okT_wp {α : Type} {n : Nat} {lt : Nat → Nat → Bool} {P : α → Prop} {cmp : Nat → Nat → (Bool → Shared → Prop) → Shared → Prop} {Q : α → Shared → Prop} {s : Shared}
    (hc : ∀ i j (C : Bool → Shared → Prop), i < n → j < n → C (lt i j) s → cmp i j C s) (hq : ∀ a, P a → Q a s) : ∀ (t : KasT α), okT n lt t P → t.kasWp cmp Q s
  | .ret a, h => hq a h
  | .ask i j k, h => hc i j _ h.1 h.2.1 (okT_wp hc hq (k (lt i j)) h.2.2)

section
variable {n : Nat} {K : Nat → Int}
abbrev ltK (K : Nat → Int) : Nat → Nat → Bool := fun i j => decide (K i < K j)
noncomputable def KP (K : Nat → Int) (p : Array Nat) (i : Nat) : Int := K (p.getD i 0)
structure Ok (n : Nat) (p : Array Nat) : Prop where
  size : p.size = n
  perm : p.toList.Perm (List.range n)
theorem Ok.get {p : Array Nat} (h : Ok n p) {i : Nat} (hi : i < n) : p.getD i 0 < n := by
  have hs := h.size
  have e : p.getD i 0 = p[i]'(by omega) := by simp [Array.getD, show i < p.size by omega]
  rw [e]
  exact List.mem_range.mp (h.perm.mem_iff.mp (by rw [Array.mem_toList_iff]; exact Array.getElem_mem _))
theorem Ok.get0 {p : Array Nat} (h : Ok n p) (hn : 0 < n) (i : Nat) : p.getD i 0 < n := by
  by_cases hi : i < n
  · exact h.get hi
  · have hs := h.size
    simp [Array.getD, show ¬ i < p.size by omega]; exact hn
theorem Ok.inj {p : Array Nat} (h : Ok n p) {i j : Nat} (hi : i < n) (hj : j < n) (e : p.getD i 0 = p.getD j 0) : i = j := by
  have hs := h.size
  have e1 : ∀ k (hk : k < p.size), p.getD k 0 = p.toList[k]'(by simpa using hk) := fun k hk => by simp [Array.getD, hk]
  rw [e1 i (by omega), e1 j (by omega)] at e
  have hn : p.toList.Nodup := h.perm.nodup_iff.mpr List.nodup_range
  have hp := List.pairwise_iff_getElem.mp hn
  rcases Nat.lt_trichotomy i j with q | q | q
  · exact absurd e (hp i j _ _ q)
  · exact q
  · exact absurd e.symm (hp j i _ _ q)
theorem Ok.ne {p : Array Nat} (hK : ∀ i j, i < n → j < n → K i = K j → i = j) (h : Ok n p) {i j : Nat} (hi : i < n) (hj : j < n) (hij : i ≠ j) : KP K p i ≠ KP K p j := fun e => hij (h.inj hi hj (hK _ _ (h.get hi) (h.get hj) e))
noncomputable def Asc (K : Nat → Int) (p : Array Nat) (k : Nat) : Prop := ∀ i j, i < j → j < k → KP K p i < KP K p j
noncomputable def Dsc (K : Nat → Int) (p : Array Nat) (k : Nat) : Prop := ∀ i j, i < j → j < k → KP K p j < KP K p i

theorem asc_succ {p : Array Nat} {m : Nat} (h : Asc K p m) (h1 : 1 ≤ m) (hlt : KP K p (m - 1) < KP K p m) : Asc K p (m + 1) := by
  intro i j hij hj
  by_cases e : j = m
  · subst e
    by_cases e2 : i = j - 1
    · rw [e2]; exact hlt
    · have := h i (j - 1) (by omega) (by omega); omega
  · exact h i j hij (by omega)
theorem dsc_succ {p : Array Nat} {m : Nat} (h : Dsc K p m) (h1 : 1 ≤ m) (hlt : KP K p m < KP K p (m - 1)) : Dsc K p (m + 1) := by
  intro i j hij hj
  by_cases e : j = m
  · subst e
    by_cases e2 : i = j - 1
    · rw [e2]; exact hlt
    · have := h i (j - 1) (by omega) (by omega); omega
  · exact h i j hij (by omega)
theorem asc_ok {p : Array Nat} (hK : ∀ i j, i < n → j < n → K i = K j → i = j) (h : Ok n p) : ∀ (f m : Nat), m + f = n → 1 ≤ m → Asc K p m →
    okT n (ltK K) (kas_asc p f m) (fun r => m ≤ r ∧ r ≤ n ∧ Asc K p r ∧ (r < n → KP K p r < KP K p (r - 1)))
  | 0, m, hf, h1, ha => ⟨Nat.le_refl _, by omega, ha, fun q => by omega⟩
  | f + 1, m, hf, h1, ha => by
    refine ⟨h.get (by omega), h.get (by omega), ?_⟩
    by_cases hc : K (p.getD m 0) < K (p.getD (m - 1) 0)
    · rw [show ltK K (p.getD m 0) (p.getD (m - 1) 0) = true from decide_eq_true hc]
      simp only [if_true]
      exact ⟨Nat.le_refl _, by omega, ha, fun _ => hc⟩
    · rw [show ltK K (p.getD m 0) (p.getD (m - 1) 0) = false from decide_eq_false hc]
      simp only [Bool.false_eq_true, if_false]
      have hne := h.ne hK (i := m) (j := m - 1) (by omega) (by omega) (by omega)
      have hlt : KP K p (m - 1) < KP K p m := by unfold KP at *; omega
      exact okT_mono (fun r hr => ⟨by omega, hr.2⟩) _ (asc_ok hK h f (m + 1) (by omega) (by omega) (asc_succ ha h1 hlt))
theorem desc_ok {p : Array Nat} (hK : ∀ i j, i < n → j < n → K i = K j → i = j) (h : Ok n p) : ∀ (f m : Nat), m + f = n → 1 ≤ m → Dsc K p m →
    okT n (ltK K) (kas_desc f p m 0) (fun r => r.1 = p ∧ r.2.2 = 0 ∧ m ≤ r.2.1 ∧ r.2.1 ≤ n ∧ Dsc K p r.2.1)
  | 0, m, hf, h1, ha => ⟨rfl, rfl, Nat.le_refl _, by dsimp only; omega, ha⟩
  | f + 1, m, hf, h1, ha => by
    refine ⟨h.get (by omega), h.get (by omega), ?_⟩
    by_cases hc : K (p.getD m 0) < K (p.getD (m - 1) 0)
    · rw [show ltK K (p.getD m 0) (p.getD (m - 1) 0) = true from decide_eq_true hc]
      simp only [if_true, Nat.lt_irrefl, gt_iff_lt, if_false]
      exact okT_mono (fun r hr => ⟨hr.1, hr.2.1, by omega, hr.2.2.2⟩) _ (desc_ok hK h f (m + 1) (by omega) (by omega) (dsc_succ ha h1 hc))
    · rw [show ltK K (p.getD m 0) (p.getD (m - 1) 0) = false from decide_eq_false hc]
      simp only [Bool.false_eq_true, if_false]
      have hne := h.ne hK (i := m) (j := m - 1) (by omega) (by omega) (by omega)
      have hlt : K (p.getD (m - 1) 0) < K (p.getD m 0) := by unfold KP at hne; omega
      refine ⟨h.get (by omega), h.get (by omega), ?_⟩
      rw [show ltK K (p.getD (m - 1) 0) (p.getD m 0) = true from decide_eq_true hlt]
      simp only [if_true]
      exact ⟨rfl, rfl, Nat.le_refl _, by dsimp only; omega, ha⟩
theorem getD_of {p q : Array Nat} {i j : Nat} (h : p[i]? = q[j]?) : p.getD i 0 = q.getD j 0 := by
  rw [Array.getD_eq_getD_getElem?, Array.getD_eq_getD_getElem?, h]
theorem rev_ok {p : Array Nat} (h : Ok n p) (i j : Nat) : Ok n (kas_rev p i j) := by
  have hp := mirror_perm p i j ((j - i) / 2)
  refine ⟨?_, ?_⟩
  · unfold kas_rev; rw [mirror_size]; exact h.size
  · exact (Array.perm_iff_toList_perm.mp hp).trans h.perm
theorem rev_asc {p : Array Nat} (h : Ok n p) {m : Nat} (hm : m ≤ n) (ha : Dsc K p m) : Asc K (kas_rev p 0 m) m := by
  intro i j hij hj
  have hs := h.size
  have e : ∀ k, k < m → (kas_rev p 0 m).getD k 0 = p.getD (0 + m - 1 - k) 0 := fun k hk => getD_of (by
    unfold kas_rev
    rw [getElem?_mirror_all (by omega), if_pos ⟨by omega, hk⟩])
  unfold KP
  rw [e i (by omega), e j hj]
  exact ha _ _ (by omega) (by omega)
theorem count_ok (hK : ∀ i j, i < n → j < n → K i = K j → i = j) (hn : 2 ≤ n) {p : Array Nat} (h : Ok n p) :
    okT n (ltK K) (kas_count n p) (fun r => 1 ≤ r.1 ∧ r.1 ≤ n ∧ Ok n r.2 ∧ Asc K r.2 r.1) := by
  unfold kas_count
  refine okT_bind _ (okT_mono (fun r hr => ?_) _ (asc_ok hK h (n - 1) 1 (by omega) (by omega) (fun i j _ _ => by omega)))
  obtain ⟨h1, h2, h3, h4⟩ := hr
  by_cases he : r = n
  · rw [if_pos (by simp [he])]
    exact ⟨h1, h2, h, h3⟩
  · rw [if_neg (by simp [he])]
    by_cases h5 : r > 1
    · rw [if_pos h5]
      have hlt : K (p.getD 0 0) < K (p.getD (r - 1) 0) := h3 0 (r - 1) (by omega) (by omega)
      refine ⟨h.get (by omega), h.get (by omega), ?_⟩
      rw [show ltK K (p.getD 0 0) (p.getD (r - 1) 0) = true from decide_eq_true hlt]
      simp only [if_true]
      exact ⟨h1, h2, h, h3⟩
    · rw [if_neg h5]
      have er : r = 1 := by omega
      subst er
      unfold kas_descPart
      have hd2 : Dsc K p 2 := fun i j hij hj => by
        have e1 : i = 0 := by omega
        have e2 : j = 1 := by omega
        subst e1 e2
        exact h4 (by omega)
      refine okT_bind _ (okT_mono (fun r hr => ?_) _ (desc_ok hK h (n - 2) 2 (by omega) (by omega) hd2))
      obtain ⟨p', m', q'⟩ := r
      obtain ⟨rfl, rfl, g1, g2, g3⟩ := hr
      dsimp only
      rw [if_neg (by omega)]
      unfold kas_tail3
      refine okT_bind _ (okT_mono (fun r hr => ?_) _ (asc_ok hK (rev_ok h 0 m') (n - m') m' (by dsimp only at g2; omega) (by dsimp only at g1; omega) (rev_asc h g2 g3)))
      exact ⟨by have := hr.1; dsimp only at g1; omega, hr.2.1, rev_ok h 0 m', hr.2.2.1⟩
theorem place_ok {p : Array Nat} (h : Ok n p) {k : Nat} (hk : k < n) (ha : Asc K p k) : ∀ (f l r : Nat), r - l ≤ f → l ≤ r → r ≤ k → (∀ i, i < l → KP K p i ≤ KP K p k) → (∀ i, r ≤ i → i < k → KP K p k < KP K p i) →
    okT n (ltK K) (kas_place p k f l r) (fun m => m ≤ k ∧ (∀ i, i < m → KP K p i ≤ KP K p k) ∧ (∀ i, m ≤ i → i < k → KP K p k < KP K p i))
  | 0, l, r, hf, hlr, hr, h1, h2 => ⟨by omega, h1, fun i hi => h2 i (by omega)⟩
  | f + 1, l, r, hf, hlr, hr, h1, h2 => by
    unfold kas_place
    by_cases hge : l ≥ r
    · rw [if_pos hge]
      exact ⟨by omega, h1, fun i hi => h2 i (by omega)⟩
    · rw [if_neg hge]
      refine ⟨h.get hk, h.get (by omega), ?_⟩
      by_cases hc : K (p.getD k 0) < K (p.getD ((l + r) / 2) 0)
      · rw [show ltK K (p.getD k 0) (p.getD ((l + r) / 2) 0) = true from decide_eq_true hc]
        simp only [if_true]
        refine place_ok h hk ha f l ((l + r) / 2) (by omega) (by omega) (by omega) h1 fun i hi hik => ?_
        by_cases e : i = (l + r) / 2
        · rw [e]; exact hc
        · have := ha ((l + r) / 2) i (by omega) hik
          unfold KP at *; omega
      · rw [show ltK K (p.getD k 0) (p.getD ((l + r) / 2) 0) = false from decide_eq_false hc]
        simp only [Bool.false_eq_true, if_false]
        refine place_ok h hk ha f ((l + r) / 2 + 1) r (by omega) (by omega) (by omega) (fun i hi => ?_) h2
        by_cases e : i = (l + r) / 2
        · rw [e]; unfold KP; omega
        · have := ha i ((l + r) / 2) (by omega) (by omega)
          unfold KP at *; omega
theorem bin_ok (hK : ∀ i j, i < n → j < n → K i = K j → i = j) : ∀ (f k : Nat) (p : Array Nat), k + f = n → Ok n p → Asc K p k → okT n (ltK K) (kas_bin f p k) (fun q => Ok n q ∧ Asc K q n)
  | 0, k, p, hf, h, ha => ⟨h, by rw [← hf]; exact ha⟩
  | f + 1, k, p, hf, h, ha => by
    unfold kas_bin
    refine okT_bind _ (okT_mono (fun m hm => ?_) _ (place_ok h (by omega) ha k 0 k (by omega) (by omega) (Nat.le_refl _) (fun i hi => by omega) (fun i h1 h2 => by omega)))
    obtain ⟨g1, g2, g3⟩ := hm
    have hs := h.size
    have hb : Ok n (bubble p k (k - m)) := ⟨by rw [bubble_size]; exact hs, (Array.perm_iff_toList_perm.mp (bubble_perm p k (k - m))).trans h.perm⟩
    refine bin_ok hK f (k + 1) _ (by omega) hb ?_
    have e : ∀ i, (bubble p k (k - m))[i]? = if i = m then p[k]? else if m < i ∧ i ≤ k then p[i - 1]? else p[i]? := fun i => by
      rw [getElem?_bubble (by omega) (k - m) (by omega), show k - (k - m) = m by omega]
    have e1 : ∀ i, i < m → KP K (bubble p k (k - m)) i = KP K p i := fun i hi => by
      unfold KP; rw [getD_of (i := i) (j := i) (q := p) (by rw [e, if_neg (by omega), if_neg (by omega)])]
    have e2 : KP K (bubble p k (k - m)) m = KP K p k := by
      unfold KP; rw [getD_of (i := m) (j := k) (q := p) (by rw [e, if_pos rfl])]
    have e3 : ∀ i, m < i → i ≤ k → KP K (bubble p k (k - m)) i = KP K p (i - 1) := fun i hi hi2 => by
      unfold KP; rw [getD_of (i := i) (j := i - 1) (q := p) (by rw [e, if_neg (by omega), if_pos ⟨hi, hi2⟩])]
    have g2' : ∀ i, i < m → KP K p i < KP K p k := fun i hi => by
      have := g2 i hi
      have := h.ne hK (i := i) (j := k) (by omega) (by omega) (by omega)
      omega
    intro i j hij hj
    by_cases c1 : i < m
    · rw [e1 i c1]
      by_cases c2 : j < m
      · rw [e1 j c2]; exact ha i j hij (by omega)
      · by_cases c3 : j = m
        · rw [c3, e2]; exact g2' i c1
        · rw [e3 j (by omega) (by omega)]; exact ha i (j - 1) (by omega) (by omega)
    · by_cases c2 : i = m
      · rw [c2, e2, e3 j (by omega) (by omega)]; exact g3 (j - 1) (by omega) (by omega)
      · rw [e3 i (by omega) (by omega), e3 j (by omega) (by omega)]; exact ha (i - 1) (j - 1) (by omega) (by omega)
theorem sort_ok (hK : ∀ i j, i < n → j < n → K i = K j → i = j) (hn : 2 ≤ n) : okT n (ltK K) (kas_sort n) (fun q => Ok n q ∧ Asc K q n) := by
  unfold kas_sort
  have h0 : Ok n (List.toArray (List.range n)) := ⟨by simp, by simp⟩
  refine okT_bind _ (okT_mono (fun r hr => ?_) _ (count_ok hK hn h0))
  obtain ⟨h1, h2, h3, h4⟩ := hr
  by_cases hlt : r.1 < n
  · rw [if_pos hlt, show max r.1 1 = r.1 by omega]
    exact bin_ok hK _ _ _ (by omega) h3 h4
  · rw [if_neg hlt]
    have e : r.1 = n := by omega
    exact ⟨h3, by rw [← e]; exact h4⟩
end
end Mine
end

/-! part SQ -/
section
open PySem PySem.W PySem.Calls PyProof.Rows
set_option Elab.async false
set_option maxRecDepth 100000
set_option maxHeartbeats 2000000
namespace Mine
noncomputable def enc (x : Int × Int) : Int := x.1 * 1000 + x.2
theorem plt_enc {x y : Int × Int} (hx : -100 ≤ x.2 ∧ x.2 ≤ 0) (hy : -100 ≤ y.2 ∧ y.2 ≤ 0) : plt x y = decide (enc x < enc y) := by
  unfold plt enc
  by_cases h : x.1 = y.1
  · rw [if_pos h, h]
    by_cases h2 : x.2 < y.2
    · rw [decide_eq_true h2, decide_eq_true (by omega)]
    · rw [decide_eq_false h2, decide_eq_false (by omega)]
  · rw [if_neg h]
    by_cases h2 : x.1 < y.1
    · rw [decide_eq_true h2, decide_eq_true (by omega)]
    · rw [decide_eq_false h2, decide_eq_false (by omega)]
theorem enc_inj {x y : Int × Int} (hx : -100 ≤ x.2 ∧ x.2 ≤ 0) (hy : -100 ≤ y.2 ∧ y.2 ≤ 0) (h : enc x = enc y) : x = y := by
  unfold enc at h
  have h1 : x.1 = y.1 := by omega
  have h2 : x.2 = y.2 := by omega
  exact Prod.ext h1 h2
section
variable {prog : Program} {w : World} {A : Around} {E : Value → Shared → Prop} {s : Shared} {h₀ : Heap} {L : Addr} {m : Str → Option Value} {news : List (Addr × Obj)}
theorem key_lt {v v' : Value} {x y : Int × Int} {C : Bool → Shared → Prop} (hx : PairAt s.heap v x) (hy : PairAt s.heap v' y) (h : C (plt x y) s) : wpAny (model prog w) A (keyLt' (tuples' true) v v') C (fun _ _ => False) s := by
  obtain ⟨a, t, u, n, rfl, ha⟩ := hx
  obtain ⟨b, t', u', n', rfl, hb⟩ := hy
  refine kat_lt ha rfl hb rfl ?_
  unfold plt at h
  refine kat_cons (wpAny_eqBool_int ?_)
  by_cases e1 : x.1 = y.1
  · rw [beq_iff_eq.mpr e1]
    rw [if_pos e1] at h
    refine kat_yes (kat_cons (wpAny_eqBool_int ?_))
    by_cases e2 : x.2 = y.2
    · rw [beq_iff_eq.mpr e2]
      refine kat_yes (kat_nil ?_)
      rw [e2, show decide (y.2 < y.2) = false from decide_eq_false (Int.lt_irrefl _)] at h
      exact h
    · rw [beq_eq_false_iff_ne.mpr e2]
      exact kat_no (kat_one _ _ (PyProof.Rows.lt_int h))
  · rw [beq_eq_false_iff_ne.mpr e1]
    rw [if_neg e1] at h
    exact kat_no (oneLt_int h)
theorem tups_of {h : Heap} {vs : List Value} {xs : List (Int × Int)} (p : PairsAt h vs xs) : ∃ fs, KatTups h vs fs ∧ fs.length = vs.length ∧ ∀ v ∈ fs, ∃ i t, v = .int i t := by
  induction p with
  | nil => exact ⟨[], trivial, rfl, fun _ q => nomatch q⟩
  | cons h1 _ ih =>
    obtain ⟨a, t, u, n, rfl, ha⟩ := h1
    obtain ⟨fs, k, hl, hi⟩ := ih
    refine ⟨_ :: fs, KatTups.cons ha rfl rfl rfl k, by rw [List.length_cons, List.length_cons, hl], fun v hv => ?_⟩
    rcases List.mem_cons.mp hv with rfl | hv
    · exact ⟨_, _, rfl⟩
    · exact hi v hv
theorem pairs_pick {h : Heap} {vs : List Value} {xs : List (Int × Int)} (p : PairsAt h vs xs) : ∀ (is : List Nat), (∀ i ∈ is, i < xs.length) → PairsAt h (is.map fun i => vs.getD i Value.none) (is.map fun i => xs.getD i (0, 0))
  | [], _ => .nil
  | i :: is, hi => by
    obtain ⟨v, hv, ha⟩ := p.get (hi i (.head _))
    refine .cons ?_ (pairs_pick p is fun j hj => hi j (.tail _ hj))
    show PairAt h (vs.getD i Value.none) (xs.getD i (0, 0))
    rw [List.getD_eq_getElem?_getD, hv]
    exact ha
theorem map_getD_range (xs : List (Int × Int)) : (List.range xs.length).map (fun i => xs.getD i (0, 0)) = xs := by
  apply List.ext_getElem
  · simp
  · intro i h1 h2
    simp [h2]
theorem sorted_led {l : Addr} {vs : List Value} {xs : List (Int × Int)} {n : Nat} {Q : Value → Shared → Prop} (F : Fr h₀ L s.heap m) (N : News h₀ L s.heap news) (nd : Nd news) (hl : s.heap.get? l = some (listOf vs.toArray n))
    (hp : ∀ h' m', Fr h₀ L h' m' → News h₀ L h' news → PairsAt h' vs xs) (hb : ∀ p ∈ xs, -100 ≤ p.2 ∧ p.2 ≤ 0) (hnd : xs.Nodup) (h2 : 2 ≤ xs.length) (h64 : xs.length < 64)
    (h : ∀ D h' c sv S, Fr h₀ L h' m → News h₀ L h' ((D, listOf (List.toArray sv) c) :: news) → Nd ((D, listOf (List.toArray sv) c) :: news) → S.Perm xs → S.Pairwise (fun x y => plt x y = true) → (∀ k, PairsAt k vs xs → PairsAt k sv S) → Q (.ref D) { s with heap := h' }) :
    wpAny (model prog w) A (call (.builtin "sorted") [.ref l]) Q E s := by
  have hlen := (hp _ _ F N).length
  refine kat_sorted F N (PySem.IsL.isList hl) (by omega) (by omega) fun D e1 h' F' N' hD => ?_
  have N'' : News h₀ L h' news := fun p q => N' p (.tail _ q)
  have hp' := hp _ _ F' N''
  obtain ⟨fs, k, hfl, hfi⟩ := tups_of hp'
  refine kat_kind (T := .type "int") (s := { s with heap := h' }) k (by omega) (fun v hv => ?_) rfl ?_
  · obtain ⟨i, t, rfl⟩ := hfi v hv
    exact Looks.of_pure rfl
  let K : Nat → Int := fun i => enc (xs.getD i (0, 0))
  have hget : ∀ i, i < xs.length → xs.getD i (0, 0) ∈ xs := fun i hi => by
    rw [List.getD_eq_getElem?_getD, List.getElem?_eq_getElem hi]; exact List.getElem_mem hi
  have hK : ∀ i j, i < xs.length → j < xs.length → K i = K j → i = j := fun i j hi hj e => by
    have e1 := enc_inj (hb _ (hget i hi)) (hb _ (hget j hj)) e
    rw [List.getD_eq_getElem?_getD, List.getD_eq_getElem?_getD, List.getElem?_eq_getElem hi, List.getElem?_eq_getElem hj] at e1
    have hp := List.pairwise_iff_getElem.mp hnd
    rcases Nat.lt_trichotomy i j with q | q | q
    · exact absurd e1 (hp i j _ _ q)
    · exact q
    · exact absurd e1.symm (hp j i _ _ q)
  have hs := sort_ok hK h2
  rw [hlen]
  refine okT_wp (fun i j C hi hj hC => ?_) (fun p hP => ?_) _ hs
  · unfold kas_ask
    obtain ⟨v, hv, ha⟩ := hp'.get hi
    obtain ⟨v', hv', ha'⟩ := hp'.get hj
    rw [List.getD_eq_getElem?_getD, List.getD_eq_getElem?_getD, hv, hv']
    refine key_lt (s := { s with heap := h' }) ha ha' ?_
    rw [plt_enc (hb _ (hget i hi)) (hb _ (hget j hj))]
    exact hC
  · obtain ⟨hO, hA⟩ := hP
    have hmem : ∀ i ∈ p.toList, i < xs.length := fun i hi => List.mem_range.mp (hO.perm.mem_iff.mp hi)
    have hne : ∀ q ∈ news, q.1 ≠ D := fun q hq => Nat.ne_of_lt (hD q hq)
    refine KasFin.intro (s := { s with heap := h' }) F' N' (UpdF.head hne) fun h'' c F'' N''' => ?_
    refine h D h'' c _ (p.toList.map fun i => xs.getD i (0, 0)) F'' N''' ?_ ?_ ?_ ?_
    · refine List.nodup_cons.mpr ⟨fun q => ?_, nd⟩
      obtain ⟨r, hr, e⟩ := List.mem_map.mp q
      exact hne r hr e
    · have := hO.perm.map fun i => xs.getD i (0, 0)
      rw [map_getD_range] at this
      exact this
    · rw [List.pairwise_map, List.pairwise_iff_getElem]
      intro i j hi hj hij
      have hi' : i < xs.length := by have := hO.size; simp at hi; omega
      have hj' : j < xs.length := by have := hO.size; simp at hj; omega
      rw [plt_enc (hb _ (hget _ (hmem _ (List.getElem_mem _)))) (hb _ (hget _ (hmem _ (List.getElem_mem _))))]
      have := hA i j hij hj'
      unfold KP at this
      have e : ∀ k (hk : k < p.toList.length), p.getD k 0 = p.toList[k] := fun k hk => by simp at hk; simp [Array.getD, hk]
      rw [e i hi, e j hj] at this
      exact decide_eq_true this
    · exact fun k hk => pairs_pick hk _ hmem
theorem slice_anyL {value slice : Expr} {l : Addr} {items : Array Value} {vl vu vk : Value} {lo hi st : Option Int} {ops : List Value} {ws : List Value} {Q : Value → Shared → Prop}
    (F : Fr h₀ L s.heap m) (N : News h₀ L s.heap news) (nd : Nd news) (hl : s.heap.IsList l items) (pl : IsPart vl lo) (pu : IsPart vu hi) (pk : IsPart vk st) (h0 : st ≠ some 0) (hw : slicePick items lo hi st = ws.toArray)
    (h : ∀ D h', Fr h₀ L h' m → News h₀ L h' ((D, listOf ws.toArray 0) :: news) → Nd ((D, listOf ws.toArray 0) :: news) → Q (.ref D) { s with heap := h' })
    (hs : subscripted slice false (.ref l) (.ref s.heap.objs.size) = operate ops (getItem (.ref l) (.ref s.heap.objs.size))) (hsz : items.size ≤ sizeLine) :
    wpAny (model prog w) A (subscriptTail value slice (.ref l) (.ref s.heap.objs.size)) Q E { s with heap := s.heap.push { cls := .type "slice", data := .fields #[vl, vu, vk] } } := by
  refine tail_any (Heap.IsList.typeIs (s := { s with heap := s.heap.push { cls := .type "slice", data := .fields #[vl, vu, vk] } }) (hl.push _)) list_getitem_lookup
    (wpAny_getItem_list_slice (hl.push _) (Heap.IsSliceOf.new ..) pl pu pk h0 ?_ hsz) hs
  have N0 := N.grown fun _ _ e => Heap.get?_push_of_some { cls := .type "slice", data := .fields #[vl, vu, vk] } e
  have N1 := News.push (F.push { cls := .type "slice", data := .fields #[vl, vu, vk] }) N0 { cls := .type "list", data := .seq (slicePick items lo hi st) }
  have nd1 := nd_push (o := { cls := .type "list", data := .seq (slicePick items lo hi st) }) N0 nd
  rw [hw] at N1 nd1 ⊢
  exact h _ _ ((F.push _).push _) N1 nd1
theorem pick_upto {vs : List Value} {y : Int} (h : 0 ≤ y) : slicePick vs.toArray none (some y) none = (vs.take y.toNat).toArray := by
  have e : sliceBounds none (some y) none vs.toArray.size = (((0 : Nat) : Int), ((min y.toNat vs.toArray.size : Nat) : Int), 1) := by
    simp only [sliceBounds, Option.getD_none, show (1 : Int) > 0 by decide, if_true, if_neg (show ¬ (y < 0) by omega)]
    congr 1
    congr 1
    omega
  rw [kmk_pick_nat _ e]
  rw [List.drop_zero, Nat.sub_zero, List.size_toArray]
  congr 1
  rw [← List.take_take, List.take_length]
end
end Mine
end

/-! part LS -/
section
open PySem PySem.W PySem.Calls PyProof.Rows
set_option Elab.async false
set_option maxRecDepth 100000
set_option maxHeartbeats 8000000
namespace Mine

theorem item3 {prog : Program} {w : World} {A : Around} {E : Value → Shared → Prop} {s : Shared} {h₀ : Heap} {L l : Addr} {news : List (Addr × Obj)} {a b c : Value} {n : Nat} {value slice : PySem.Expr} {k : Int} {u : Tok} {Q : Value → Shared → Prop}
    (N : News h₀ L s.heap news) (hm : (l, listOf [a, b, c].toArray n) ∈ news) (hk : k = 0 ∨ k = 1 ∨ k = 2) (h0 : k = 0 → Q a s) (h1 : k = 1 → Q b s) (h2 : k = 2 → Q c s)
    (hs : subscripted slice false (.ref l) (.int k u) = operate [.ref l, .int k u] (getItem (.ref l) (.int k u)) := by with_unfolding_all rfl) :
    wpAny (model prog w) A (subscriptTail value slice (.ref l) (.int k u)) Q E s := by
  rcases hk with hk | hk | hk
  · subst hk; exact item_led N hm (by decide) (by decide) rfl (h0 rfl) hs
  · subst hk; exact item_led N hm (by decide) (by decide) rfl (h1 rfl) hs
  · subst hk; exact item_led N hm (by decide) (by decide) rfl (h2 rfl) hs
theorem item_ex {prog : Program} {w : World} {A : Around} {E : Value → Shared → Prop} {s : Shared} {h₀ : Heap} {L l : Addr} {news : List (Addr × Obj)} {vs : List Value} {n : Nat} {value slice : PySem.Expr} {k z : Int} {u : Tok} {Q : Value → Shared → Prop}
    (N : News h₀ L s.heap news) (hm : (l, listOf vs.toArray n) ∈ news) (h0 : 0 ≤ k) (hhi : k < 2 ^ 63) (hx : ∃ tx, vs[k.toNat]? = some (.int z tx)) (h : ∀ tx, Q (.int z tx) s)
    (hs : subscripted slice false (.ref l) (.int k u) = operate [.ref l, .int k u] (getItem (.ref l) (.int k u)) := by with_unfolding_all rfl) :
    wpAny (model prog w) A (subscriptTail value slice (.ref l) (.int k u)) Q E s := by
  obtain ⟨tx, hx⟩ := hx
  exact item_led N hm h0 hhi hx (h tx) hs
theorem ls_spec {w : World} {mean : ExcName → Option Value} {mg mb : Str → Option Value} {dp un : Nat} {gd : Option (List Code)} {fr : Option (List Env)} {s : Shared} {h₀ : Heap} {L : Addr} {m : Str → Option Value}
    {sc : Addr} {vs : List Value} {ns : List Int} {Q E : Value → Shared → Prop}
    (F : Fr h₀ L s.heap m) (X : (hd.heap_39 w.params).In h₀) (T : Top hd.view_39 (looseW hd.view_39 []) mean mg mb h₀) (hdp : dp ≤ 680) (hun : un ≤ 80)
    (hS : s.heap.IsList sc vs.toArray) (hI : IntsAre vs ns) (hn : ns.length ≤ 63)
    (hret : ∀ h' tk D t0 t1 t2 f c l n, Ev [] s.heap h' → s.heap.get? D = none → h'.get? D = some (listOf #[.int f t0, .int c t1, .int l t2] n) →
      f = 1 + (ns.headD 1) % 3 → c = 1 + (ns.headD 1) / 3 % 3 → l = (if (ns.headD 1) / 9 % 3 = 0 then 0 else if (ns.headD 1) / 9 % 3 = 1 then 127 else 2) → Q (.ref D) { s with heap := h', toks := tk }) :
    wpAny (model Challenge.rw_oc0024_01.row.prog w) (ar dp un gd fr) (call (.ref 70) [.ref sc]) Q E s := by
  have N : News h₀ L s.heap [] := News.nil
  revert X; k_fill; intro X
  k_dflt (refine' enterM (binds := [(Str.ofString "script", .ref sc)]) ?k2 ?k3 ?k4 ?k5 ?k6 ?k7 ?k8 ?k9 ?kB ?_ ?c2 ?c3 ?c4 ?c5; walk_at "M.enter")
  intro g L' h' hg1 hg2 F' N' X' T'
  (try dsimp only)
  k_fold
  have hSg : g.IsList sc vs.toArray := let ⟨o, ho, r⟩ := hS; ⟨o, hg1 _ _ ho (by simp), r⟩
  clear hS
  have hvl := hI.length
  walk_at "M.g8"
  dsimp only
  refine slice_anyL (s := { s with heap := h', toks := _ }) (ws := vs.take (1 : Int).toNat) F' N' (by simp [Nd]) (hSg.at fun o e => F'.keep _ o e) .none (IsPart.int _ _) .none (by decide) (pick_upto (by decide)) ?_ (by with_unfolding_all rfl) (by rw [List.size_toArray, sizeLine_eq]; omega)
  intro D1 h1 F1 N1 nd1
  walk_at "M.g8"
  refine newList_led F1 N1 nd1 (Nat.le_of_ble_eq_true rfl) ?_
  intro D2 h2 F2 N2 nd2
  walk_at "M.g8"
  refine add_lists F2 N2 (PySem.IsL.isList (n := 0) (N2 _ (.tail _ (.head _))).1) (PySem.IsL.isList (n := 0) (N2 _ (.head _)).1) (fun h3 F3 N3 => ?_) (by rw [List.length_take, sizeLine_eq]; simp; omega)
  have hx0 : ∀ t, ∃ tx, (vs.take (1 : Int).toNat ++ [Value.int 1 t])[(0 : Int).toNat]? = some (.int (ns.headD 1) tx) := by
    intro t
    cases hI with
    | nil => exact ⟨_, rfl⟩
    | cons a t _ => exact ⟨_, rfl⟩
  walk_at "M.g8"
  refine item_ex (n := 0) N3 (.head _) (by omega) (by omega) (hx0 _) fun tx => ?_
  generalize ns.headD 1 = x at hret hx0
  have e3 : ∀ a : Int, a.fmod 3 = a % 3 := fun a => Int.fmod_eq_emod_of_nonneg _ (by decide)
  have e9 : ∀ a : Int, a.fdiv 9 = a / 9 := fun a => Int.fdiv_eq_ediv_of_nonneg _ (by decide)
  have e4 : ∀ a : Int, a.fdiv 3 = a / 3 := fun a => Int.fdiv_eq_ediv_of_nonneg _ (by decide)
  have hk : (x.fdiv 9).fmod 3 = 0 ∨ (x.fdiv 9).fmod 3 = 1 ∨ (x.fdiv 9).fmod 3 = 2 := by rw [e3]; omega
  walk_at "M.g8"
  (with_reducible rename Fr _ _ _ _ => F4)
  (with_reducible rename News _ _ _ _ => N4)
  replace N4 := news_sub (l' := []) N4 (fun _ q => nomatch q)
  refine newList_led F4 N4 (by simp [Nd]) (Nat.le_of_ble_eq_true rfl) ?_
  intro D5 h5 F5 N5 nd5
  walk_at "M.g8"
  refine item3 N5 (.head _) hk (fun hk => ?_) (fun hk => ?_) (fun hk => ?_)
  all_goals (walk_at "M.g8")
  all_goals (refine newList_led F5 N5 nd5 (Nat.le_of_ble_eq_true rfl) ?_; intro D6 h6 F6 N6 nd6; walk_at "M.g8")
  all_goals (have z := nw_of hg1 N6 _ (.head _))
  all_goals (rw [e3, e9] at hk)
  all_goals (refine hret _ _ _ _ _ _ _ _ _ _ (ev_of hg1 F6) (z.2.resolve_left (by simp)) z.1 (by rw [e3]) (by rw [e3, e4]) (by rw [hk]; rfl))
end Mine
end

/-! part EQ -/
section
open PySem PySem.W PySem.Calls PyProof.Rows
set_option Elab.async false
set_option maxRecDepth 100000
set_option maxHeartbeats 2000000
namespace Mine
noncomputable def dP (p : Int × Int) : PyData := .tuple [.int p.1, .int p.2]
theorem reads_pairs {h : Heap} {vs : List Value} {xs : List (Int × Int)} (p : PairsAt h vs xs) : ∃ as, ReadsAll h vs (xs.map dP) as := by
  induction p with
  | nil => exact ⟨_, .nil⟩
  | cons h1 _ ih =>
    obtain ⟨a, t, u, n, rfl, ha⟩ := h1
    obtain ⟨as, r⟩ := ih
    exact ⟨_, .cons (reads_tuple_at ha rfl rfl (.cons (Reads.int _ _) (.cons (Reads.int _ _) .nil))) r⟩
theorem reads_strs {h : Heap} {vs : List Value} {ys : List Str} (p : StrsAre vs ys) : ∃ as, ReadsAll h vs (ys.map PyData.str) as := by
  induction p with
  | nil => exact ⟨_, .nil⟩
  | cons x t _ ih =>
    obtain ⟨as, r⟩ := ih
    exact ⟨_, .cons (Reads.str _ _) r⟩
theorem lay_pairs : ∀ (xs : List (Int × Int)), PyData.canLayAll0 (xs.map dP) = true ∧ PyData.depthAll (xs.map dP) ≤ 1
  | [] => by simp [PyData.canLayAll0, PyData.depthAll]
  | p :: r => by
    have := lay_pairs r
    simp only [List.map_cons, PyData.canLayAll0, PyData.depthAll, dP, PyData.canLay0, PyData.depth, this.1]
    refine ⟨by simp, ?_⟩
    have := this.2
    simp; omega
theorem lay_strs : ∀ (ys : List Str), (∀ y ∈ ys, PyData.strOk y = true) → PyData.canLayAll0 (ys.map PyData.str) = true ∧ PyData.depthAll (ys.map PyData.str) = 0
  | [], _ => by simp [PyData.canLayAll0, PyData.depthAll]
  | y :: r, h => by
    have := lay_strs r fun z hz => h z (.tail _ hz)
    have h1 := h y (.head _)
    simp [PyData.canLayAll0, PyData.depthAll, PyData.canLay0, PyData.depth, this.1, this.2, h1]
theorem eq_results {prog : Program} {w : World} {A : Around} {E : Value → Shared → Prop} {s : Shared} {Q : Value → Shared → Prop} {R1 R2 a1 b1 c1 a2 b2 c2 : Addr} {n1 n2 k1 k2 k3 k4 k5 k6 : Nat} {lg1 lg2 tv1 tv2 wv1 wv2 : List Value} {xs : List (Int × Int)} {ys : List Str}
    (hR1 : s.heap.get? R1 = some { cls := .type "tuple", data := .seq #[.ref a1, .ref b1, .ref c1] n1 }) (hR2 : s.heap.get? R2 = some { cls := .type "tuple", data := .seq #[.ref a2, .ref b2, .ref c2] n2 })
    (ha1 : s.heap.get? a1 = some (listOf lg1.toArray k1)) (hb1 : s.heap.get? b1 = some (listOf tv1.toArray k2)) (hc1 : s.heap.get? c1 = some (listOf wv1.toArray k3))
    (ha2 : s.heap.get? a2 = some (listOf lg2.toArray k4)) (hb2 : s.heap.get? b2 = some (listOf tv2.toArray k5)) (hc2 : s.heap.get? c2 = some (listOf wv2.toArray k6))
    (p1 : PairsAt s.heap lg1 xs) (p2 : PairsAt s.heap lg2 xs) (t1 : StrsAre tv1 ys) (t2 : StrsAre tv2 ys) (w1 : StrsAre wv1 ys) (w2 : StrsAre wv2 ys) (hok : ∀ y ∈ ys, PyData.strOk y = true) (hu : A.units + 64 < cLine) (h : Q (.bool true) s) :
    wpAny (model prog w) A (compareOp .Eq (.ref R1) (.ref R2)) Q E s := by
  have lp := lay_pairs xs
  have ls := lay_strs ys hok
  have hc : (PyData.tuple [.list (xs.map dP), .list (ys.map PyData.str), .list (ys.map PyData.str)]).canLay0 = true := by
    simp [PyData.canLay0, PyData.canLayAll0, lp.1, ls.1]
  have hd : (PyData.tuple [.list (xs.map dP), .list (ys.map PyData.str), .list (ys.map PyData.str)]).depth ≤ 64 := by
    have := lp.2
    simp [PyData.depth, PyData.depthAll, ls.2]
    omega
  have hsh : SeqAt.shaped (PyData.tuple [.list (xs.map dP), .list (ys.map PyData.str), .list (ys.map PyData.str)]) = true := by
    unfold SeqAt.shaped; rw [hc, decide_eq_true hd]; rfl
  obtain ⟨_, r1⟩ := reads_pairs p1
  obtain ⟨_, r2⟩ := reads_pairs p2
  obtain ⟨_, q1⟩ := reads_strs (h := s.heap) t1
  obtain ⟨_, q2⟩ := reads_strs (h := s.heap) t2
  obtain ⟨_, q3⟩ := reads_strs (h := s.heap) w1
  obtain ⟨_, q4⟩ := reads_strs (h := s.heap) w2
  refine SeqAt.compareEq_shaped (reads_tuple_at hR1 rfl rfl (.cons (reads_list_at ha1 rfl rfl r1) (.cons (reads_list_at hb1 rfl rfl q1) (.cons (reads_list_at hc1 rfl rfl q3) .nil))))
    (reads_tuple_at hR2 rfl rfl (.cons (reads_list_at ha2 rfl rfl r2) (.cons (reads_list_at hb2 rfl rfl q2) (.cons (reads_list_at hc2 rfl rfl q4) .nil)))) hsh hsh hu ?_
  rw [PySem.SeqAt.eqv_refl _ hc]
  exact h
theorem str_ext {x y : Str} (h : x.cps.toList = y.cps.toList) : x = y := by
  obtain ⟨a⟩ := x
  obtain ⟨b⟩ := y
  have : a = b := Array.toList_inj.mp h
  rw [this]
theorem strs_ext : ∀ {xs ys : List Str}, xs.map (·.cps.toList) = ys.map (·.cps.toList) → xs = ys
  | [], [], _ => rfl
  | [], _ :: _, h => by simp at h
  | _ :: _, [], h => by simp at h
  | x :: r, y :: t, h => by
    simp only [List.map_cons, List.cons.injEq] at h
    rw [str_ext h.1, strs_ext h.2]
theorem figs_small (i : Nat) (x : Int) : ∀ c ∈ figs i x, c < 128 := by
  obtain ⟨h0, h1⟩ := numOf_lt i x
  unfold figs
  obtain ⟨n, hn⟩ : ∃ n : Nat, numOf i x = n := ⟨(numOf i x).toNat, by omega⟩
  rw [hn]
  have e : (Str.ofString (toString (n : Int))).cps.toList = (Nat.toDigits 10 n).map Char.toNat := by
    rw [Str.ofString_eq_toList]
    show (List.toArray _).toList = _
    rw [List.toList_toArray]
    show List.map Char.toNat (String.ofList (Nat.toDigits 10 n)).toList = _
    rw [String.toList_ofList]
  rw [e]
  intro c hc
  obtain ⟨ch, hch, rfl⟩ := List.mem_map.mp hc
  have := Nat.isDigit_of_mem_toDigits (by decide) (by decide) hch
  simp only [Char.isDigit, Bool.and_eq_true, decide_eq_true_eq] at this
  have h5 : ch.toNat ≤ 57 := UInt32.le_iff_toNat_le.mp this.2
  omega
theorem cells_ok (xs : List Int) : ∀ x ∈ cellsOf xs, CellOk x ∧ ∀ c ∈ x.ds, c < 128 := by
  intro x hx
  obtain ⟨k, hk, e⟩ := List.mem_mapIdx.mp (show x ∈ xs.mapIdx cellOf from hx)
  generalize xs[k] = z at e
  subst e
  have h1 := figs_spec k z
  exact ⟨⟨by show (z % 4).toNat ≤ 3; omega, by show (z / 4 % 3).toNat ≤ 2; omega, h1.2.1, h1.1, h1.2.2⟩, figs_small k z⟩
theorem cells_len (ns : List Int) : (cellsOf (srcOf ns)).length ≤ 10 ∧ 4 ≤ (cellsOf (srcOf ns)).length := by
  have := src_length ns
  simp only [cellsOf, List.length_mapIdx]; exact this
theorem len_flatten {α : Type} : ∀ {L : List (List α)} {l : List α}, l ∈ L → l.length ≤ L.flatten.length
  | a :: r, l, h => by
    rw [List.flatten_cons, List.length_append]
    rcases List.mem_cons.mp h with rfl | h
    · omega
    · have := len_flatten h; omega
theorem log_len (ns : List Int) : 2 ≤ (logAll (cellsOf (srcOf ns))).length := by
  have hx : (cellsOf (srcOf ns))[((ns.drop 1).take 6).length]? = some (cellOf ((ns.drop 1).take 6).length 7) := by
    unfold cellsOf srcOf
    rw [List.getElem?_mapIdx, List.getElem?_append_right (Nat.le_refl _), Nat.sub_self]
    rfl
  have hm : logRow ((ns.drop 1).take 6).length 4 ∈ (cellsOf (srcOf ns)).mapIdx fun k x => logRow k (x.a + x.b) := by
    refine List.mem_of_getElem? (i := ((ns.drop 1).take 6).length) ?_
    rw [List.getElem?_mapIdx, hx]
    rfl
  have := len_flatten hm
  unfold logAll
  simp only [logRow, List.length_map, List.length_range] at this ⊢
  omega
theorem texts_ok {f c l : Int} {cs : List Cell} {ls : List (Int × Int)} (hs : ∀ x ∈ cs, ∀ c ∈ x.ds, c < 128) {ys : List Str} (h : ys.map (·.cps.toList) = tTexts f c l cs ls) : ∀ y ∈ ys, PyData.strOk y = true := by
  intro y hy
  have hm : y.cps.toList ∈ tTexts f c l cs ls := by rw [← h]; exact List.mem_map.mpr ⟨y, hy, rfl⟩
  obtain ⟨k, hk', e⟩ := List.mem_mapIdx.mp hm
  have hc := hs cs[k] (List.getElem_mem hk')
  unfold PyData.strOk
  rw [Array.all_eq_true']
  intro z hz
  have hz' : z ∈ y.cps.toList := Array.mem_toList_iff.mpr hz
  rw [← e] at hz'
  unfold padL at hz'
  have hlt : z < 128 := by
    rcases List.mem_append.mp hz' with q | q
    · rw [(List.mem_replicate.mp q).2]; decide
    · rcases List.mem_append.mp q with q | q
      · exact tp_mem (by decide) hc _ z q
      · rw [(List.mem_replicate.mp q).2]; decide
  simp; omega
end Mine
end

/-! part LR -/
section
open PySem PySem.W PySem.Calls PyProof.Rows
set_option Elab.async false
set_option maxRecDepth 100000
set_option maxHeartbeats 8000000
namespace Mine

theorem lr_spec {w : World} {mean : ExcName → Option Value} {mg mb : Str → Option Value} {dp un : Nat} {gd : Option (List Code)} {fr : Option (List Env)} {s : Shared} {h₀ : Heap} {L : Addr} {m : Str → Option Value}
    {DC S : Addr} {cvs : List Value} {cells : List Cell} {nC : Nat} {f c l : Int} {t0 t1 t2 : Tok} {n : Nat} {Q E : Value → Shared → Prop}
    (F : Fr h₀ L s.heap m) (X : (hd.heap_39 w.params).In h₀) (T : Top hd.view_39 (looseW hd.view_39 []) mean mg mb h₀) (hdp : dp ≤ 660) (hun : un ≤ 60)
    (hC : s.heap.get? DC = some (listOf cvs.toArray nC)) (hcs : CellsAt s.heap cvs cells) (hlen : cells.length ≤ 20) (hlen0 : 0 < cells.length) (hok : ∀ x ∈ cells, CellOk x) 
    (hS : s.heap.get? S = some (listOf #[.int f t0, .int c t1, .int l t2] n)) (hf : 1 ≤ f ∧ f ≤ 3) (hc : 1 ≤ c ∧ c ≤ 3) (hl : l = 0 ∨ l = 127 ∨ l = 2) (hb : AllBare s.gens)
    (hret : ∀ (h' : Heap) (tk : Nat) (gens' : Array GenState) (RT DL DT D3 : Addr) (lg tv wv : List Value) (tys wys : List Str) (n1 n2 n3 n4 : Nat), Ev [] s.heap h' → AllBare gens' → h'.get? RT = some { cls := .type "tuple", data := .seq #[.ref DL, .ref DT, .ref D3] n4 } →
      h'.get? DL = some (listOf lg.toArray n1) → h'.get? DT = some (listOf tv.toArray n2) → h'.get? D3 = some (listOf wv.toArray n3) → PairsAt h' lg (runLog f c l cells) → StrsAre tv tys → tys.map (·.cps.toList) = textsOf f c l cells (runLog f c l cells) →
      StrsAre wv wys → wys.map (·.cps.toList) = textsOf f c l cells (runLog f c l cells) → Q (.ref RT) { s with heap := h', toks := tk, gens := gens' }) :
    wpAny (model Challenge.rw_oc0024_01.row.prog w) (ar dp un gd fr) (call (.ref 82) [.ref DC, .ref S]) Q E s := by
  revert X; k_fill; intro X
  k_dflt (refine' enterC (binds := [(Str.ofString "cells", .ref DC), (Str.ofString "sizes", .ref S)]) ?k2 ?k3 ?k5 ?k6 ?k7 ?k8 ?k9 ?kB ?kN ?_ ?c2 ?c3 ?c4)
  (case k2 => k_asm)
  (case k3 => k_asm)
  (case k5 => k_asm)
  (case k6 => k_is)
  (case k7 => k_is)
  (case k8 => ktr_room)
  (case k9 => exact BindsTo.of_eq rfl)
  (case kB => rfl)
  (case kN => decide)
  (case c2 => exact rfl)
  (case c3 => exact rfl)
  (case c4 => exact rfl)
  intro L' h1 tk1 cells1 F1 N1 Y1 X1 T1
  (try dsimp only)
  k_fold
  have F2 : Fr s.heap L' h1 (fun y => if y = Str.ofString "sizes" then some (.ref S) else if y = Str.ofString "cells" then some (.ref DC) else none) := F1
  clear F1
  have Y2 : CellsAre (fun _ => none) [(Str.ofString "gone", L' + 1 + 1 + 1), (Str.ofString "log", L' + 1 + 1), (Str.ofString "wide", L' + 1)] cells1 := Y1
  clear Y1
  obtain ⟨oG, oK, oW, rfl, hoG, hoK, hoW⟩ := cells3 Y2
  clear Y2
  have nd1 : Nd [(L' + 1 + 1 + 1, oG), (L' + 1 + 1, oK), (L' + 1, oW)] := by
    have e1 : ¬ @Eq Nat (L' + 1 + 1 + 1) (L' + 1 + 1) := by omega
    have e2 : ¬ @Eq Nat (L' + 1 + 1 + 1) (L' + 1) := by omega
    have e3 : ¬ @Eq Nat (L' + 1 + 1) (L' + 1) := by omega
    simp only [Nd, List.map_cons, List.map_nil, List.nodup_cons, List.mem_cons, List.not_mem_nil, or_false, not_false_eq_true, List.nodup_nil, and_true, not_or]
    exact ⟨⟨e1, e2⟩, e3⟩
  walk_at "M.g9"
  refine newList_led F2 N1 nd1 (Nat.le_of_ble_eq_true rfl) ?_
  intro DT h3 F3 N3 nd3
  walk_at "M.g9"
  (with_reducible rename Fr _ _ _ _ => F4)
  (with_reducible rename News _ _ _ _ => N4)
  refine newList_led F4 N4 nd3 (Nat.le_of_ble_eq_true rfl) ?_
  intro DH h5 F5 N5 nd5
  walk_at "M.g9"
  (with_reducible rename Fr _ _ _ _ => F6)
  (with_reducible rename News _ _ _ _ => N6)
  refine wpAny_mono (forM (Q := fun fl s' => Box (A2 (fl = .next) (X10 fun (h1 : Heap) (tk : Nat) (gens : Array GenState) (m1 : Str → Option Value) (tv hv : List Value) (tys : List Str) (tc : Tok) (n1 n2 : Nat) => A13 (s' = { s with heap := h1, toks := tk, gens := gens }) (AllBare gens) (Fr s.heap L' h1 m1) (m1 (Str.ofString "cells") = some (.ref DC)) (m1 (Str.ofString "sizes") = some (.ref S)) (m1 (Str.ofString "texts") = some (.ref DT)) (m1 (Str.ofString "heap") = some (.ref DH)) (m1 (Str.ofString "commas") = some (.int (comN f c l cells) tc)) (News s.heap L' h1 [(DH, listOf hv.toArray n2), (DT, listOf tv.toArray n1), (L' + 1 + 1 + 1, oG), (L' + 1 + 1, oK), (L' + 1, oW)]) (Nd [(DH, listOf hv.toArray n2), (DT, listOf tv.toArray n1), (L' + 1 + 1 + 1, oG), (L' + 1 + 1, oK), (L' + 1, oW)]) (StrsAre tv tys) (tys.map (·.cps.toList) = wideOf f c l cells) (PairsAt h1 hv (heap0 cells))))) ?iter) ?cont (fun _ _ x => x)
  case iter =>
    walk_at "M.g9"
    have hClist : s.heap.IsList DC cvs.toArray := PySem.IsL.isList hC
    have hcl := hcs.length
    refine call_len_list (hClist.at fun o e => F6.keep _ o e) (by rw [List.size_toArray, hcl]; omega) ?_
    rw [show ((cvs.toArray.size : Nat) : Int) = (cells.length : Int) by rw [List.size_toArray, hcl]]
    walk_at "M.g9"
    refine range1_led F6 N6 nd5 ?_
    intro r h7 tk7 t71 t72 F7 N7 nd7
    walk_at "M.g9"
    refine iter_range_led F7 N7 nd7 (Int.le_refl 0) (by decide) (zz _) (z1000 hlen) ?_
    intro it h8 F8 N8 nd8
    refine ⟨fun k s' => Box (X11 fun (h1 : Heap) (tk : Nat) (gens : Array GenState) (m1 : Str → Option Value) (i : Nat) (tv hv : List Value) (tys : List Str) (tc : Tok) (n1 n2 : Nat) => A15 (s' = { s with heap := h1, toks := tk, gens := gens }) (k = 20 - i) (i ≤ cells.length) (AllBare gens) (Fr s.heap L' h1 m1) (m1 (Str.ofString "cells") = some (.ref DC)) (m1 (Str.ofString "sizes") = some (.ref S)) (m1 (Str.ofString "texts") = some (.ref DT)) (m1 (Str.ofString "heap") = some (.ref DH)) (m1 (Str.ofString "commas") = some (.int (comN f c l (cells.take i)) tc)) (News s.heap L' h1 [(it, riObj i (cells.length - i) 1), (DH, listOf hv.toArray n2), (DT, listOf tv.toArray n1), (L' + 1 + 1 + 1, oG), (L' + 1 + 1, oK), (L' + 1, oW)]) (Nd [(it, riObj i (cells.length - i) 1), (DH, listOf hv.toArray n2), (DT, listOf tv.toArray n1), (L' + 1 + 1 + 1, oG), (L' + 1 + 1, oK), (L' + 1, oW)]) (StrsAre tv tys) (tys.map (·.cps.toList) = wideOf f c l (cells.take i)) (PairsAt h1 hv (heap0 (cells.take i)))), 20,
      ⟨h8, _, s.gens, _, 0, [], [], [], _, 0, 0, rfl, rfl, Nat.zero_le _, hb, F8, rfl, rfl, rfl, rfl, rfl, N8, nd8, .nil, rfl, .nil⟩, fun _ => rfl, ?_⟩
    rintro k P1 hP1 s' ⟨h9, tk9, gens9, m9, i, tv, hv, tys, tc, n1, n2, rfl, rfl, hi, hb9, F9, q1, q2, q3, q4, q5, N9, nd9, hty, htm, hpr⟩
    have hoff9 : ∀ b o, h9.get? b = some o → TupO o → b ∉ [L', it, DH, DT, L' + 1 + 1 + 1, L' + 1 + 1, L' + 1] := fun b o q1 q2 => tup_off2 F9 N9 (nt1 (nt_cls (show Value.type "range_iterator" ≠ Value.type "tuple" by decide)) (nt1 (nt_cls (show Value.type "list" ≠ Value.type "tuple" by decide)) (nt1 (nt_cls (show Value.type "list" ≠ Value.type "tuple" by decide)) (nt1 (nt_cell hoG) (nt1 (nt_cell hoK) (nt1 (nt_cell hoW) nt0)))))) q1 q2
    have N9' := news_snap N9 (L := L') (ex := [L', it, DH, DT, L' + 1 + 1 + 1, L' + 1 + 1, L' + 1]) (.head _)
    have nd9' := nd_snap (h := h9) (g := s.heap) (ex := [L', it, DH, DT, L' + 1 + 1 + 1, L' + 1 + 1, L' + 1]) nd9 snap_mem
    have hk9 : ∀ b o, s.heap.get? b = some o → h9.get? b = some o := F9.keep
    have htl : tys.length = i := by
      have := congrArg List.length htm
      simp only [wideOf, List.length_map, List.length_take] at this
      omega
    by_cases hlt : i < cells.length
    · obtain ⟨cv, hcv, hcell⟩ := hcs.get (List.getElem?_eq_getElem hlt)
      have hxs : cells[i]? = some cells[i] := List.getElem?_eq_getElem hlt
      have hxo : CellOk cells[i] := hok _ (List.getElem_mem hlt)
      generalize cells[i] = x at hcell hxs hxo
      obtain ⟨ca, cy, ct, cu, ct', cn, rfl, hca, hcy⟩ := hcell
      refine next_range_led F9 N9' nd9' (zpos hlt) ?_
      intro h10 tk10 t10 F10 N10 nd10
      replace F10 := fr_bnd F10 [(Str.ofString "cells", .ref DC), (Str.ofString "sizes", .ref S), (Str.ofString "texts", .ref DT), (Str.ofString "heap", .ref DH), (Str.ofString "commas", .int (comN f c l (cells.take i)) tc)] (bd q1 (bd q2 (bd q3 (bd q4 (bd q5 bd0)))))
      clear q1 q2 q3 q4 q5
      unfold ForP
      walk_at "M.g9"
      (with_reducible rename Fr _ _ _ _ => F11)
      (with_reducible rename News _ _ _ _ => N11)
      refine item_at (hClist.at fun o e => F11.keep _ o e) (zz _) (z63 hlt hlen) (v := .ref ca) hcv ?_
      refine unpackN_ F11 N11 ⟨_, F11.keep _ _ hca, rfl, _, rfl⟩ rfl rfl rfl (fun h12 F12 N12 => ?_)
      walk_at "M.g9"
      (with_reducible rename Fr _ _ _ _ => F13)
      (with_reducible rename News _ _ _ _ => N13)
      refine lp_spec (dp := dp + 1) (un := un + 3) (ds := x.ds) F13 X1 T1 (up hdp (by decide)) (up hun (by decide)) (F13.keep _ _ hS) hf hc hl hcy hxo.len hb9 ?_
      intro h14 tk14 t14 y14 gens14 E14 hb14 hy14
      obtain ⟨F14, N14⟩ := back0 F13 N13 E14
      clear F13 N13 E14
      have hcl1 : cy.length = x.ds.length := by rw [← hcy]; simp [Str.length]
      have hyl1 : y14.length = (partL f c l x.ds).length := by rw [← hy14]; simp [Str.length]
      have hpl := partL_len hf hc hl hxo.len hxo.ds
      have hxl := hxo.len
      have hyl2 : y14.length ≤ 16 := by omega
      have hcl2 : cy.length ≤ 16 := by omega
      have hxa := hxo.a
      have hxb := hxo.b
      walk_at "M.g9"
      refine mul_blank x.a (by omega) (by omega) (by omega) ?_
      intro y15 tk15 t15 hy15
      walk_at "M.g9"
      refine add_gen hy15 hy14 (by rw [List.length_replicate]; omega) ?_
      intro y16 tk16 t16 hy16
      walk_at "M.g9"
      refine mul_blank x.b (by omega) (by omega) (by omega) ?_
      intro y17 tk17 t17 hy17
      walk_at "M.g9"
      refine add_gen hy16 hy17 (by rw [List.length_append, List.length_replicate, List.length_replicate]; omega) ?_
      intro y18 tk18 t18 hy18
      walk_at "M.g9"
      (with_reducible rename Fr _ _ _ _ => F18)
      (with_reducible rename News _ _ _ _ => N18)
      refine append_led (pre := [(it, _), (DH, _)]) (post := [(L' + 1 + 1 + 1, oG), (L' + 1 + 1, oK), (L' + 1, oW)] ++ others h9 s.heap [L', it, DH, DT, L' + 1 + 1 + 1, L' + 1 + 1, L' + 1]) F18 N18 nd10 (by rw [strsAre_length hty]; omega) ?_
      intro h19 F19 N19 nd19
      walk_at "M.g9"
      (with_reducible rename Fr _ _ _ _ => F20)
      (with_reducible rename News _ _ _ _ => N20)
      refine newTuple_led F20 N20 nd19 (Nat.le_of_ble_eq_true rfl) ?_
      intro tup h21 F21 N21 nd21
      walk_at "M.g9"
      refine append_led (pre := [(tup, _), (it, _)]) (post := (DT, _) :: ([(L' + 1 + 1 + 1, oG), (L' + 1 + 1, oK), (L' + 1, oW)] ++ others h9 s.heap [L', it, DH, DT, L' + 1 + 1 + 1, L' + 1 + 1, L' + 1])) F21 N21 nd21 (by rw [hpr.length]; simp [heap0]; omega) ?_
      intro h22 F22 N22 nd22
      walk_at "M.g9"
      have ei : ((i + 1 : Nat) : Int) = (i : Int) + 1 := rfl
      have el : (cells.length : Int) - (i : Int) - 1 = (cells.length : Int) - ((i : Int) + 1) := Int.sub_sub _ _ _
      have z22 := (N22 _ (.head _)).1
      have hpr22 : PairsAt h22 hv (heap0 (cells.take i)) := hpr.keepsT fun b o q1 q2 => snap_back (own := [(tup, _), (it, _), (DH, _), (DT, _), (L' + 1 + 1 + 1, oG), (L' + 1 + 1, oK), (L' + 1, oW)]) hk9 F22 N22 q1 (hoff9 b o q1 q2)
      have hcom : comN f c l (cells.take i) + ((y14.length : Int) - (cy.length : Int)) = comN f c l (cells.take (i + 1)) := by
        rw [comN_snoc hxs, hyl1, hcl1]
      refine hP1 .next _ ⟨20 - (i + 1), dn20 hlt hlen, h22, _, gens14, _, i + 1, tv ++ [.str y18 t18], hv ++ [.ref tup], tys ++ [y18], _, n1 + 1, n2 + 1, rfl, rfl, hlt, hb14, F22, rfl, rfl, rfl, rfl, congrArg (fun z => some (Value.int z _)) hcom, ?_, ?_, strsAre_snoc hty _ _, ?_, ?_⟩
      · rw [ei, ← el]
        exact news_subS N22 (by walk_at "M.sub")
      · rw [ei, ← el]
        exact nd_sub nd22 (by walk_at "M.sub")
      · rw [wideOf_snoc hxs, List.map_append, htm, List.map_cons, List.map_nil, hy18, List.append_assoc]; rfl
      · rw [heap0_snoc hxs]
        exact hpr22.append (.cons ⟨tup, _, _, _, rfl, z22⟩ .nil)
    · refine next_range_end rfl F9 N9' nd9' (zneg hlt) ?_
      intro h10 F10 N10 nd10
      have hie : i = cells.length := ieq hi hlt
      rw [hie, List.take_length] at q5 htm hpr
      refine hP1 .brk _ ⟨rfl, h10, _, _, _, tv, hv, tys, tc, n1, n2, rfl, hb9, F10, q1, q2, q3, q4, q5, news_subS N10 (by walk_at "M.sub"), nd_sub nd10 (by walk_at "M.sub"), hty, htm, ?_⟩
      exact hpr.keepsT fun b o q1 q2 => snap_back (own := [(DH, _), (DT, _), (L' + 1 + 1 + 1, oG), (L' + 1 + 1, oK), (L' + 1, oW)]) hk9 F10 N10 q1 (hoff9 b o q1 q2)
  case cont =>
    rintro fl s' ⟨rfl, h7, tk7, gens7, m7, tv, hv, tys, tc, n1, n2, rfl, hb7, F7, q1, q2, q3, q4, q5, N7, nd7, hty, htm, hpr⟩
    replace F7 := fr_bnd F7 [(Str.ofString "cells", .ref DC), (Str.ofString "sizes", .ref S), (Str.ofString "texts", .ref DT), (Str.ofString "heap", .ref DH), (Str.ofString "commas", .int (comN f c l cells) tc)] (bd q1 (bd q2 (bd q3 (bd q4 (bd q5 bd0)))))
    clear q1 q2 q3 q4 q5
    dsimp only
    walk_at "M.g9"
    have hoff7 : ∀ b o, h7.get? b = some o → TupO o → b ∉ [L', DH, DT, L' + 1 + 1 + 1, L' + 1 + 1, L' + 1] := fun b o q1 q2 => tup_off2 F7 N7 (nt1 (nt_cls (show Value.type "list" ≠ Value.type "tuple" by decide)) (nt1 (nt_cls (show Value.type "list" ≠ Value.type "tuple" by decide)) (nt1 (nt_cell hoG) (nt1 (nt_cell hoK) (nt1 (nt_cell hoW) nt0))))) q1 q2
    have N7' := news_snap N7 (L := L') (ex := [L', DH, DT, L' + 1 + 1 + 1, L' + 1 + 1, L' + 1]) (.head _)
    have nd7' := nd_snap (h := h7) (g := s.heap) (ex := [L', DH, DT, L' + 1 + 1 + 1, L' + 1 + 1, L' + 1]) nd7 snap_mem
    have hk7 : ∀ b o, s.heap.get? b = some o → h7.get? b = some o := F7.keep
    have htl : tys.length = cells.length := by
      have := congrArg List.length htm
      simpa [wideOf] using this
    clear N7 nd7
    refine copy_led F7 N7' nd7' (N7' _ (.tail _ (.head _))).1 (by rw [strsAre_length hty]; omega) ?_
    intro DW h8 nW F8 N8 nd8
    walk_at "M.g9"
    refine storeC_led (pre := [(DW, _), (DH, _), (DT, _), (L' + 1 + 1 + 1, oG), (L' + 1 + 1, oK)]) (post := others h7 s.heap [L', DH, DT, L' + 1 + 1 + 1, L' + 1 + 1, L' + 1]) F8 N8 nd8 rfl hoW ?_ rfl rfl
    intro h9 oW9 F9 N9 nd9 hoW9
    walk_at "M.g9"
    have hprk : ∀ h', (∀ b o, h7.get? b = some o → TupO o → h'.get? b = some o) → PairsAt h' hv (heap0 cells) := fun h' k => hpr.keepsT k
    have hoff10 : ∀ b o, h7.get? b = some o → TupO o → b ∉ [L', DH, DT, L' + 1 + 1 + 1, L' + 1 + 1, L' + 1] := hoff7
    have hpr9 : PairsAt h9 hv (heap0 cells) := hpr.keepsT fun b o q1 q2 => snap_back (own := [(DW, _), (DH, _), (DT, _), (L' + 1 + 1 + 1, oG), (L' + 1 + 1, oK), (L' + 1, oW9)]) hk7 F9 N9 q1 (hoff7 b o q1 q2)
    refine hf_spec (dp := dp + 1) (un := un + 3) F9 X1 (news_subS (l' := [(DH, listOf hv.toArray n2)]) N9 (by walk_at "M.sub")) T1 (up hdp (by decide)) (up hun (by decide)) hpr9 (by simp [heap0]; omega) ?_
    intro h10 tk10 hv10 E10 g10 p10
    obtain ⟨F10, N10, nd10⟩ := back1 (pre := [(DW, _)]) (post := (DT, _) :: (L' + 1 + 1 + 1, oG) :: (L' + 1 + 1, oK) :: (L' + 1, oW9) :: others h7 s.heap [L', DH, DT, L' + 1 + 1 + 1, L' + 1 + 1, L' + 1]) F9 N9 nd9 E10 g10
    clear F9 N9 nd9 E10 g10
    walk_at "M.g9"
    refine newList_led F10 N10 nd10 (Nat.le_of_ble_eq_true rfl) ?_
    intro DL h11 F11 N11 nd11
    walk_at "M.g9"
    refine storeC_led (pre := [(DL, _), (DW, _), (DH, _), (DT, _), (L' + 1 + 1 + 1, oG)]) (post := (L' + 1, oW9) :: others h7 s.heap [L', DH, DT, L' + 1 + 1 + 1, L' + 1 + 1, L' + 1]) F11 N11 nd11 rfl hoK ?_ rfl rfl
    intro h12 oK12 F12 N12 nd12 hoK12
    walk_at "M.g9"
    have hpr12 : PairsAt h12 hv10 (hfy (heap0 cells) ((heap0 cells).length / 2)) := p10 _ (hpr.keepsT fun b o q1 q2 => snap_back (own := [(DL, _), (DW, _), (DH, _), (DT, _), (L' + 1 + 1 + 1, oG), (L' + 1 + 1, oK12), (L' + 1, oW9)]) hk7 F12 N12 q1 (hoff7 b o q1 q2))
    have h0l : (heap0 cells).length = cells.length := by simp [heap0]
    rw [h0l] at hpr12
    have hcn : 0 ≤ comN f c l cells := comN_nonneg hf hc hl hok
    refine wpAny_mono (whileM (fun k s' => Box (X12 fun (h1 : Heap) (tk : Nat) (m1 : Str → Option Value) (tv1 hv1 lg1 : List Value) (tys1 : List Str) (xs1 ls1 : List (Int × Int)) (n1 n2 n3 : Nat) => A16 (s' = { s with heap := h1, toks := tk, gens := gens7 }) (k = (comN f c l cells).toNat - ls1.length) (Fr s.heap L' h1 m1) (m1 (Str.ofString "cells") = some (.ref DC)) (m1 (Str.ofString "texts") = some (.ref DT)) (m1 (Str.ofString "heap") = some (.ref DH)) (m1 (Str.ofString "commas") = some (.int (comN f c l cells) tc)) (News s.heap L' h1 [(DL, listOf lg1.toArray n3), (DW, listOf tv.toArray nW), (DH, listOf hv1.toArray n2), (DT, listOf tv1.toArray n1), (L' + 1 + 1 + 1, oG), (L' + 1 + 1, oK12), (L' + 1, oW9)]) (Nd [(DL, listOf lg1.toArray n3), (DW, listOf tv.toArray nW), (DH, listOf hv1.toArray n2), (DT, listOf tv1.toArray n1), (L' + 1 + 1 + 1, oG), (L' + 1 + 1, oK12), (L' + 1, oW9)]) (StrsAre tv1 tys1) (tys1.map (·.cps.toList) = textsOf f c l cells ls1) (PairsAt h1 hv1 xs1) (PairsAt h1 lg1 ls1) (RI cells xs1 ls1) (ls1.length ≤ (comN f c l cells).toNat) (runGo ((comN f c l cells).toNat - ls1.length) xs1 ls1 = runLog f c l cells))) ((comN f c l cells).toNat)
       ⟨h12, _, _, tv, hv10, [], tys, _, [], n1, n2, 0, rfl, rfl, F12, rfl, rfl, rfl, rfl, news_subS N12 (by walk_at "M.sub"), nd_sub nd12 (by walk_at "M.sub"), hty, htm.trans (textsOf_nil ..).symm, hpr12, .nil, RI.start cells, Nat.zero_le _, rfl⟩
       (Q := fun fl s' => Box (A2 (fl = .next) (X8 fun (h1 : Heap) (tk : Nat) (m1 : Str → Option Value) (tv1 lg1 : List Value) (tys1 : List Str) (n1 n3 : Nat) => A11 (s' = { s with heap := h1, toks := tk, gens := gens7 }) (Fr s.heap L' h1 m1) (m1 (Str.ofString "cells") = some (.ref DC)) (m1 (Str.ofString "texts") = some (.ref DT)) (News s.heap L' h1 [(DL, listOf lg1.toArray n3), (DW, listOf tv.toArray nW), (DT, listOf tv1.toArray n1), (L' + 1 + 1 + 1, oG), (L' + 1 + 1, oK12), (L' + 1, oW9)]) (Nd [(DL, listOf lg1.toArray n3), (DW, listOf tv.toArray nW), (DT, listOf tv1.toArray n1), (L' + 1 + 1 + 1, oG), (L' + 1 + 1, oK12), (L' + 1, oW9)]) (StrsAre tv1 tys1) (tys1.map (·.cps.toList) = textsOf f c l cells (runLog f c l cells)) (PairsAt h1 lg1 (runLog f c l cells)) (∀ k x, cells[k]? = some x → goneN (runLog f c l cells) k ≤ x.a + x.b) ((runLog f c l cells).length ≤ (comN f c l cells).toNat)))) ?turn) ?cont2 (fun _ _ x => x)
    case turn =>
      clear F12 N12 nd12 hpr12 hty htm htl N10 nd10 F10 N11 nd11 F11 N7' nd7' F8 N8 nd8 hoff10 hprk hpr9 p10 hoW hoK hoff7 hk7 hpr
      rintro k P2 hP2 s' ⟨h13, tk13, m13, tv1, hv1, lg1, tys1, xs1, ls1, k1, k2, k3, rfl, rfl, F13, q1, q2, q3, q4, N13, nd13, hty, htm, hpx, hpl, hRI, hll, hrun⟩
      replace F13 := fr_bnd F13 [(Str.ofString "cells", .ref DC), (Str.ofString "texts", .ref DT), (Str.ofString "heap", .ref DH), (Str.ofString "commas", .int (comN f c l cells) tc)] (bd q1 (bd q2 (bd q3 (bd q4 bd0))))
      clear q1 q2 q3 q4
      have hoff13 : ∀ b o, h13.get? b = some o → TupO o → b ∉ [L', DL, DW, DH, DT, L' + 1 + 1 + 1, L' + 1 + 1, L' + 1] := fun b o q1 q2 => tup_off2 F13 N13 (nt1 (nt_cls (show Value.type "list" ≠ Value.type "tuple" by decide)) (nt1 (nt_cls (show Value.type "list" ≠ Value.type "tuple" by decide)) (nt1 (nt_cls (show Value.type "list" ≠ Value.type "tuple" by decide)) (nt1 (nt_cls (show Value.type "list" ≠ Value.type "tuple" by decide)) (nt1 (nt_cell hoG) (nt1 (nt_cell hoK12) (nt1 (nt_cell hoW9) nt0))))))) q1 q2
      have N13' := news_snap N13 (L := L') (ex := [L', DL, DW, DH, DT, L' + 1 + 1 + 1, L' + 1 + 1, L' + 1]) (.head _)
      have nd13' := nd_snap (h := h13) (g := s.heap) (ex := [L', DL, DW, DH, DT, L' + 1 + 1 + 1, L' + 1 + 1, L' + 1]) nd13 snap_mem
      have hk13 : ∀ b o, s.heap.get? b = some o → h13.get? b = some o := F13.keep
      clear N13 nd13
      have hcle := comN_le hf hc hl hok
      have hlgl := hpl.length
      have hxl := hRI.length
      obtain ⟨v0, hv0, a0, ta0, ua0, na0, rfl, ha0⟩ := hpx.get (i := 0) (by omega)
      walk_at "M.g9"
      refine call_len_list (PySem.IsL.isList (n := k3) (N13' _ (.head _)).1) (by rw [List.size_toArray]; omega) ?_
      rw [show ((lg1.toArray.size : Nat) : Int) = (ls1.length : Int) by rw [List.size_toArray, hlgl]]
      walk_at "M.g9"
      · rename_i hlt
        refine item_led N13' (.tail _ (.tail _ (.head _))) (by decide) z63o (v := .ref a0) hv0 ?_
        walk_at "M.g9"
        refine item_p0 (x := xs1.getD 0 (0, 0)) ha0 ?_
        walk_at "M.g9"
        · rename_i hpos
          replace hpos : 0 < (hd0 xs1).1 := hpos
          obtain ⟨k0, x0, hcx, hhd, hgl⟩ := hRI.head (by omega) hpos
          have hk0 : k0 < cells.length := (List.getElem?_eq_some_iff.mp hcx).1
          have hxo : CellOk x0 := hok _ (List.mem_of_getElem? hcx)
          obtain ⟨d0, hd0m, hd0h⟩ := partL_head hf hc hl hxo.len hxo.ds
          have hplen := partL_len hf hc hl hxo.len hxo.ds
          have hxa := hxo.a
          have hxb := hxo.b
          obtain ⟨ty, tt, hty0, hty1⟩ := strsAre_get hty (k := k0) (by rw [htm]; exact textsOf_get hcx)
          have htl : tys1.length = cells.length := by
            have := congrArg List.length htm
            simpa [textsOf] using this
          have ha0' : h13.get? a0 = some (pairObj (((x0.a + x0.b : Nat) : Int) - (goneN ls1 k0 : Int), -(k0 : Int)) ta0 ua0 na0) := by rw [← hhd]; exact ha0
          refine item_led N13' (.tail _ (.tail _ (.head _))) (by decide) z63o (v := .ref a0) hv0 ?_
          refine unpackN_ F13 N13' ⟨_, ha0', rfl, _, rfl⟩ rfl rfl rfl (fun h14 F14 N14 => ?_)
          walk_at "M.g9"
          (with_reducible rename Fr _ _ _ _ => F15)
          (with_reducible rename News _ _ _ _ => N15)
          refine item_led N15 (.tail _ (.tail _ (.tail _ (.head _)))) (by omega) (by omega) (v := .str ty tt) (by rw [Int.neg_neg, Int.toNat_natCast]; exact hty0) ?_
          walk_at "M.g9"
          refine sp_spec (dp := dp + 1) (un := un + 3) (k := 1) (a := x0.a - goneN ls1 k0) (b := x0.b - (goneN ls1 k0 - x0.a)) (body := partL f c l x0.ds) (c := d0) F15 X1 T1 (up hdp (by decide)) (up hun (by decide)) hty1 hd0h (hxo.ch d0 hd0m).1 (by omega) (by omega) ?_
          intro h16 tk16 t16 y16 E16 hy16
          obtain ⟨F16, N16⟩ := back0 F15 N15 E16
          clear F15 N15 E16
          walk_at "M.g9"
          refine set_ledN (pre := [(DL, _), (DW, _), (DH, _)]) (post := [(L' + 1 + 1 + 1, oG), (L' + 1 + 1, oK12), (L' + 1, oW9)] ++ others h13 s.heap [L', DL, DW, DH, DT, L' + 1 + 1 + 1, L' + 1 + 1, L' + 1]) F16 N16 nd13' (by omega) (by rw [strsAre_length hty]; omega) (by omega) ?_
          intro h17 F17 N17 nd17
          walk_at "M.g9"
          refine newTuple_led F17 N17 nd17 (Nat.le_of_ble_eq_true rfl) ?_
          intro tup h18 F18 N18 nd18
          walk_at "M.g9"
          have hkp18 : ∀ b o, h13.get? b = some o → TupO o → h18.get? b = some o := fun b o q1 q2 => snap_back (own := [(tup, _), (DL, _), (DW, _), (DH, _), (DT, _), (L' + 1 + 1 + 1, oG), (L' + 1 + 1, oK12), (L' + 1, oW9)]) hk13 F18 N18 q1 (hoff13 b o q1 q2)
          have ztup := (N18 _ (.head _)).1
          refine hr_spec (dp := dp + 1) (un := un + 3) (vs := hv1) (xs := xs1) (x := (((x0.a + x0.b : Nat) : Int) - (goneN ls1 k0 : Int) - 1, -(k0 : Int))) (n := k2) F18 X1 (news_subS (l' := [(DH, listOf hv1.toArray k2)]) N18 (by walk_at "M.sub")) T1 (up hdp (by decide)) (up hun (by decide)) (hpx.keepsT hkp18) (by omega) (by omega) ztup ?_
          intro h19 tk19 hv19 v19 E19 g19 p19 hv19e
          obtain rfl : v19 = .ref a0 := by rw [hv0] at hv19e; exact (Option.some.inj hv19e).symm
          obtain ⟨F19, N19, nd19⟩ := back1 (pre := [(tup, _), (DL, _), (DW, _)]) (post := (DT, _) :: ([(L' + 1 + 1 + 1, oG), (L' + 1 + 1, oK12), (L' + 1, oW9)] ++ others h13 s.heap [L', DL, DW, DH, DT, L' + 1 + 1 + 1, L' + 1 + 1, L' + 1])) F18 N18 nd18 E19 g19
          clear F18 N18 nd18 E19 g19
          walk_at "M.g9"
          refine append_led (pre := [(tup, _)]) (post := (DW, _) :: (DH, _) :: (DT, _) :: ([(L' + 1 + 1 + 1, oG), (L' + 1 + 1, oK12), (L' + 1, oW9)] ++ others h13 s.heap [L', DL, DW, DH, DT, L' + 1 + 1 + 1, L' + 1 + 1, L' + 1])) F19 N19 nd19 (by omega) ?_
          intro h20 F20 N20 nd20
          walk_at "M.g9"
          have hkp20 : ∀ b o, h13.get? b = some o → TupO o → h20.get? b = some o := fun b o q1 q2 => snap_back (own := [(tup, _), (DL, _), (DW, _), (DH, _), (DT, _), (L' + 1 + 1 + 1, oG), (L' + 1 + 1, oK12), (L' + 1, oW9)]) hk13 F20 N20 q1 (hoff13 b o q1 q2)
          have hstep := hRI.step (by omega) hpos
          have epair : ((hd0 xs1).1 - 1, (hd0 xs1).2) = (((x0.a + x0.b : Nat) : Int) - (goneN ls1 k0 : Int) - 1, -(k0 : Int)) := by rw [hhd]
          refine hP2 .next _ ⟨(comN f c l cells).toNat - (ls1 ++ [hd0 xs1]).length, by rw [List.length_append, List.length_singleton]; omega, h20, _, _, tv1.set (- -(k0 : Int)).toNat (.str y16 t16), hv19, lg1 ++ [.ref a0], tys1.set k0 y16, sup (xs1.set 0 ((hd0 xs1).1 - 1, (hd0 xs1).2)) 0, ls1 ++ [hd0 xs1], k1, k2, k3 + 1, rfl, rfl, F20, rfl, rfl, rfl, rfl, news_subS N20 (by walk_at "M.sub"), nd_sub nd20 (by walk_at "M.sub"), ?_, ?_, ?_, ?_, hstep, by rw [List.length_append, List.length_singleton]; omega, ?_⟩
          · rw [Int.neg_neg, Int.toNat_natCast]
            exact strsAre_set hty _ _ _
          · rw [hhd, textsOf_set _ hcx, List.map_set, htm, hy16]
            congr 2 <;> omega
          · rw [epair]
            exact p19 _ (hpx.keepsT hkp20) ⟨tup, _, _, _, rfl, (N20 _ (.head _)).1⟩
          · exact (hpl.keepsT hkp20).append (.cons ⟨a0, _, _, _, rfl, hkp20 _ _ ha0 ⟨rfl, _, _, rfl⟩⟩ .nil)
          · rw [← hrun, List.length_append, List.length_singleton, show (comN f c l cells).toNat - ls1.length = ((comN f c l cells).toNat - (ls1.length + 1)) + 1 by omega]
            conv => rhs; unfold runGo
            rw [if_pos hpos]
        · rename_i hpos
          replace hpos : ¬ 0 < (hd0 xs1).1 := hpos
          have hfin : ls1 = runLog f c l cells := by
            rw [← hrun, show (comN f c l cells).toNat - ls1.length = ((comN f c l cells).toNat - (ls1.length + 1)) + 1 by omega]
            unfold runGo
            rw [if_neg hpos]
          exact hP2 .brk _ ⟨rfl, _, _, _, tv1, lg1, tys1, k1, k3, rfl, F13, rfl, rfl, news_subS N13' (by walk_at "M.sub"), nd_sub nd13' (by walk_at "M.sub"), hty, hfin ▸ htm, hfin ▸ hpl, hfin ▸ hRI.le, hfin ▸ hll⟩
      · have hfin : ls1 = runLog f c l cells := by
          rw [← hrun, show (comN f c l cells).toNat - ls1.length = 0 by omega]
          rfl
        exact hP2 .brk _ ⟨rfl, _, _, _, tv1, lg1, tys1, k1, k3, rfl, F13, rfl, rfl, news_subS N13' (by walk_at "M.sub"), nd_sub nd13' (by walk_at "M.sub"), hty, hfin ▸ htm, hfin ▸ hpl, hfin ▸ hRI.le, hfin ▸ hll⟩
    case cont2 =>
      clear F12 N12 nd12 hpr12 N10 nd10 F10 N11 nd11 F11 N7' nd7' F8 N8 nd8 hoff10 hprk hpr9 p10 hoW hoK hoff7 hk7 hpr
      rintro fl s' ⟨rfl, h13, tk13, m13, tv1, lg1, tys1, k1, k3, rfl, F13, q1, q2, N13, nd13, hty1, htm1, hpl, hgle, hrl⟩
      replace F13 := fr_bnd F13 [(Str.ofString "cells", .ref DC), (Str.ofString "texts", .ref DT)] (bd q1 (bd q2 bd0))
      clear q1 q2
      dsimp only
      have hoff13 : ∀ b o, h13.get? b = some o → TupO o → b ∉ [L', DL, DW, DT, L' + 1 + 1 + 1, L' + 1 + 1, L' + 1] := fun b o q1 q2 => tup_off2 F13 N13 (nt1 (nt_cls (show Value.type "list" ≠ Value.type "tuple" by decide)) (nt1 (nt_cls (show Value.type "list" ≠ Value.type "tuple" by decide)) (nt1 (nt_cls (show Value.type "list" ≠ Value.type "tuple" by decide)) (nt1 (nt_cell hoG) (nt1 (nt_cell hoK12) (nt1 (nt_cell hoW9) nt0)))))) q1 q2
      have N13' := news_snap N13 (L := L') (ex := [L', DL, DW, DT, L' + 1 + 1 + 1, L' + 1 + 1, L' + 1]) (.head _)
      have nd13' := nd_snap (h := h13) (g := s.heap) (ex := [L', DL, DW, DT, L' + 1 + 1 + 1, L' + 1 + 1, L' + 1]) nd13 snap_mem
      have hk13 : ∀ b o, s.heap.get? b = some o → h13.get? b = some o := F13.keep
      have hback : ∀ own h' m', Fr s.heap L' h' m' → News s.heap L' h' (own ++ others h13 s.heap [L', DL, DW, DT, L' + 1 + 1 + 1, L' + 1 + 1, L' + 1]) → PairsAt h' lg1 (runLog f c l cells) := fun own h' m' F' N' => hpl.keepsT fun b o q1 q2 => snap_back hk13 F' N' q1 (hoff13 b o q1 q2)
      generalize others h13 s.heap [L', DL, DW, DT, L' + 1 + 1 + 1, L' + 1 + 1, L' + 1] = R at N13' nd13' hback
      clear N13 nd13 hoff13 hk13
      have hClist : s.heap.IsList DC cvs.toArray := PySem.IsL.isList hC
      have hcl := hcs.length
      have hcle := comN_le hf hc hl hok
      walk_at "M.g9"
      refine compM (cl := [(Str.ofString "log", L' + 1 + 1)]) (by rfl) rfl (by decide) ?_
      walk_at "M.g9"
      refine call_len_list (hClist.at fun o e => F13.keep _ o e) (by rw [List.size_toArray, hcl]; omega) ?_
      rw [show ((cvs.toArray.size : Nat) : Int) = (cells.length : Int) by rw [List.size_toArray, hcl]]
      walk_at "M.g9"
      refine range1_led F13 N13' nd13' ?_
      intro r h14 tk14 t141 t142 F14 N14 nd14
      walk_at "M.g9"
      refine iter_range_led F14 N14 nd14 (Int.le_refl 0) (by decide) (zz _) (z1000 hlen) ?_
      intro it h15 F15 N15 nd15
      obtain ⟨F16, N16, nd16⟩ := start1 (s := { s with heap := h15 }) F15 N15 nd15
      dsimp only at N16 nd16
      unfold CompAt
      dsimp only
      generalize h15.objs.size = acc at *
      have N17 := news_front (pre := [(acc + 1 + 1, cellO), (acc + 1, mapO), (acc, listOf (List.toArray []) 0)]) N16
      have nd17 := nd_front (pre := [(acc + 1 + 1, cellO), (acc + 1, mapO), (acc, listOf (List.toArray []) 0)]) nd16
      refine ⟨fun k s' => Box (X8 fun (h1 : Heap) (tk : Nat) (i : Nat) (gv : List Value) (n : Nat) (oC oV : Obj) (v0 : Option Value) => A9 (s' = { s with heap := h1, toks := tk, gens := gens7 }) (k = 20 - i) (i ≤ cells.length) (Fr s.heap L' h1 (bnd [(Str.ofString "cells", .ref DC), (Str.ofString "texts", .ref DT)] m13)) (News s.heap L' h1 ((it, riObj i (cells.length - i) 1) :: (acc + 1 + 1, oV) :: (acc + 1, oC) :: (acc, listOf gv.toArray n) :: ([(DL, listOf lg1.toArray k3), (DW, listOf tv.toArray nW), (DT, listOf tv1.toArray k1), (L' + 1 + 1 + 1, oG), (L' + 1 + 1, oK12), (L' + 1, oW9)] ++ R))) (Nd ((it, riObj i (cells.length - i) 1) :: (acc + 1 + 1, oV) :: (acc + 1, oC) :: (acc, listOf gv.toArray n) :: ([(DL, listOf lg1.toArray k3), (DW, listOf tv.toArray nW), (DT, listOf tv1.toArray k1), (L' + 1 + 1 + 1, oG), (L' + 1 + 1, oK12), (L' + 1, oW9)] ++ R))) (oV.data = .cell v0) (LCg.NsObj oC (fun _ => none)) (IntsAre gv ((List.range i).map fun k => (goneN (runLog f c l cells) k : Int)))), 20, ⟨_, _, 0, [], 0, mapO, cellO, none, rfl, rfl, Nat.zero_le _, F16, N17, nd17, rfl, nsObj_mapO, .nil⟩, fun _ => rfl, ?_, ?_⟩
      · rintro Q' E' s' hq ⟨h4, tk4, i, gv, n4, oC4, oV4, v04, rfl, hj, hjl, F4, N4, nd4, hV4, hC4, hgv⟩
        exact iter_ri_led N4 hq
      rintro k PC hPC QC hQC s' ⟨h18, tk18, i, gv, n4, oC18, oV18, v018, rfl, rfl, hil, F18, N18, nd18, hV18, hC18, hgv⟩
      by_cases hlt : i < cells.length
      · refine next_range_led F18 N18 nd18 (zpos hlt) ?_
        intro h19 tk19 t19 F19 N19 nd19
        unfold CompP
        refine wpAny_assign_Name (store_cell (pre := [(it, _)]) F19 N19 nd19 hV18 rfl ?_ rfl rfl)
        intro h20 oV20 F20 N20 nd20 hV20
        refine ifs_nil ?_
        rw [if_pos rfl]
        walk_at "M.g9"
        refine filt (K := acc + 1 + 1) (DL := DL) (lg := lg1) (n3 := k3) (ls := runLog f c l cells) (kk := i) rfl (by rfl) (by rfl) (fun _ => rfl) (fun _ => rfl) (fun _ => rfl)
          (fun Q' hQ' => name_cell N20 (.tail _ (.tail _ (.tail _ (.tail _ (.tail _ (.tail _ (.tail _ (.tail _ (.head _))))))))) hoK12 rfl hQ' rfl rfl (by decide)) F20 N20 nd20 (.tail _ (.head _)) hV20 (.tail _ (.tail _ (.tail _ (.tail _ (.head _)))))
          (fun h' m' F' N' => hback [(it, _), (acc + 1 + 1, _), (acc + 1, _), (acc, _), (DL, _), (DW, _), (DT, _), (L' + 1 + 1 + 1, oG), (L' + 1 + 1, oK12), (L' + 1, oW9)] h' m' F' N') (by omega) ?_
        intro D h21 tk21 ov n21 F21 N21 nd21 hov
        have hovl : ov.length ≤ 1000 := by
          have := List.countP_le_length (p := fun (p : Int × Int) => p.2 == -(i : Int)) (l := runLog f c l cells)
          omega
        walk_at "M.g9"
        refine call_len_list (PySem.IsL.isList (n := n21) (N21 _ (.head _)).1) (by rw [List.size_toArray]; omega) ?_
        walk_at "M.g9"
        have hgl := hgv.length
        rw [List.length_map, List.length_range] at hgl
        refine append_led (pre := [(D, _), (it, _), (acc + 1 + 1, _), (acc + 1, _)]) F21 N21 nd21 (by omega) ?_
        intro h22 F22 N22 nd22
        have ei : ((i + 1 : Nat) : Int) = (i : Int) + 1 := rfl
        have el : (cells.length : Int) - (i : Int) - 1 = (cells.length : Int) - ((i : Int) + 1) := Int.sub_sub _ _ _
        rw [el, ← ei] at N22 nd22
        refine hPC (20 - (i + 1)) _ (dn20 hlt hlen) ⟨h22, _, i + 1, _, _, oC18, oV20, _, rfl, rfl, hlt, F22, news_tail N22, nd_tail nd22, hV20, hC18, ?_⟩
        rw [List.range_succ, List.map_append]
        refine IntsAre.append hgv ?_
        rw [List.size_toArray, hov]
        exact .cons _ _ .nil
      · have hie : i = cells.length := ieq hil hlt
        refine next_range_end rfl F18 N18 nd18 (zneg hlt) ?_
        intro h19 F19 N19 nd19
        refine comp_end (pre := [(acc + 1 + 1, _)]) F19 N19 nd19 hC18 ?_
        intro h20 F20 N20 nd20
        refine hQC _ _ ?_
        rw [hie] at hgv
        have N20' : News s.heap L' h20 ((acc, listOf gv.toArray n4) :: ([(DL, listOf lg1.toArray k3), (DW, listOf tv.toArray nW), (DT, listOf tv1.toArray k1), (L' + 1 + 1 + 1, oG), (L' + 1 + 1, oK12), (L' + 1, oW9)] ++ R)) := fun p hp => N20 p (.tail _ hp)
        have nd20' : Nd ((acc, listOf gv.toArray n4) :: ([(DL, listOf lg1.toArray k3), (DW, listOf tv.toArray nW), (DT, listOf tv1.toArray k1), (L' + 1 + 1 + 1, oG), (L' + 1 + 1, oK12), (L' + 1, oW9)] ++ R)) := (List.nodup_cons.mp nd20).2
        clear N20 nd20 F19 N19 nd19 F18 N18 nd18 N17 nd17 N16 nd16 F16
        refine storeC_led (pre := [(acc, _), (DL, _), (DW, _), (DT, _)]) (post := (L' + 1 + 1, oK12) :: (L' + 1, oW9) :: R) F20 N20' nd20' rfl hoG ?_ rfl rfl
        intro h21 oG21 F21 N21 nd21 hoG21
        clear N20' nd20' F20
        walk_at "M.g9"
        refine compM (cl := [(Str.ofString "wide", L' + 1), (Str.ofString "gone", L' + 1 + 1 + 1)]) (by rfl) rfl (by decide) ?_
        walk_at "M.g9"
        refine call_len_list (hClist.at fun o e => F21.keep _ o e) (by rw [List.size_toArray, hcl]; omega) ?_
        rw [show ((cvs.toArray.size : Nat) : Int) = (cells.length : Int) by rw [List.size_toArray, hcl]]
        walk_at "M.g9"
        refine range1_led F21 N21 nd21 ?_
        intro r2 h22 tk22 t221 t222 F22 N22 nd22
        walk_at "M.g9"
        refine iter_range_led F22 N22 nd22 (Int.le_refl 0) (by decide) (zz _) (z1000 hlen) ?_
        intro it2 h23 F23 N23 nd23
        obtain ⟨F24, N24, nd24⟩ := start0 (s := { s with heap := h23 }) F23 N23 nd23
        dsimp only at N24 nd24
        unfold CompAt
        dsimp only
        generalize h23.objs.size = acc2 at *
        have N25 := news_front (pre := [(acc2 + 1, mapO), (acc2, listOf (List.toArray []) 0)]) N24
        have nd25 := nd_front (pre := [(acc2 + 1, mapO), (acc2, listOf (List.toArray []) 0)]) nd24
        clear N24 nd24 F23 N23 nd23 F22 N22 nd22 F21 N21 nd21
        refine ⟨fun k s' => Box (X8 fun (h1 : Heap) (tk : Nat) (i : Nat) (wv : List Value) (wys : List Str) (n : Nat) (oC : Obj) (m₂ : Str → Option Value) => A9 (s' = { s with heap := h1, toks := tk, gens := gens7 }) (k = 20 - i) (i ≤ cells.length) (Fr s.heap L' h1 (bnd [(Str.ofString "cells", .ref DC), (Str.ofString "texts", .ref DT)] m13)) (News s.heap L' h1 ((it2, riObj i (cells.length - i) 1) :: (acc2 + 1, oC) :: (acc2, listOf wv.toArray n) :: ([(acc, listOf gv.toArray n4), (DL, listOf lg1.toArray k3), (DW, listOf tv.toArray nW), (DT, listOf tv1.toArray k1), (L' + 1 + 1 + 1, oG21), (L' + 1 + 1, oK12), (L' + 1, oW9)] ++ R))) (Nd ((it2, riObj i (cells.length - i) 1) :: (acc2 + 1, oC) :: (acc2, listOf wv.toArray n) :: ([(acc, listOf gv.toArray n4), (DL, listOf lg1.toArray k3), (DW, listOf tv.toArray nW), (DT, listOf tv1.toArray k1), (L' + 1 + 1 + 1, oG21), (L' + 1 + 1, oK12), (L' + 1, oW9)] ++ R))) (LCg.NsObj oC m₂) (StrsAre wv wys) (wys.map (·.cps.toList) = (textsOf f c l cells (runLog f c l cells)).take i)), 20, ⟨_, _, 0, [], [], 0, mapO, _, rfl, rfl, Nat.zero_le _, F24, N25, nd25, nsObj_mapO, .nil, rfl⟩, fun _ => rfl, ?_, ?_⟩
        · rintro Q' E' s' hq ⟨h4, tk4, i, wv, wys, n4, oC4, m4, rfl, hj, hjl, F4, N4, nd4, hC4, hwv, hwm⟩
          exact iter_ri_led N4 hq
        clear F24 N25 nd25
        rintro k PD hPD QD hQD s' ⟨h26, tk26, i, wv, wys, n26, oC26, m26, rfl, rfl, hil, F26, N26, nd26, hC26, hwv, hwm⟩
        by_cases hlt : i < cells.length
        · refine next_range_led F26 N26 nd26 (zpos hlt) ?_
          intro h27 tk27 t27 F27 N27 nd27
          unfold CompP
          refine wpAny_assign_Name (store_own (pre := [(it2, _)]) F27 N27 nd27 hC26 rfl ?_ rfl rfl)
          intro h28 oC28 F28 N28 nd28 hC28
          refine ifs_nil ?_
          rw [if_pos rfl]
          have hcx : cells[i]? = some cells[i] := List.getElem?_eq_getElem hlt
          have hxo : CellOk cells[i] := hok _ (List.getElem_mem hlt)
          have htx := textsOf_get (f := f) (c := c) (l := l) (ls := runLog f c l cells) hcx
          have hgx := hgle i _ hcx
          generalize cells[i] = x0 at hcx hxo htx hgx
          obtain ⟨d0, hd0m, hd0h⟩ := partL_head hf hc hl hxo.len hxo.ds
          have hplen := partL_len hf hc hl hxo.len hxo.ds
          have hxa := hxo.a
          have hxb := hxo.b
          obtain ⟨ty, tt, hty0, hty2⟩ := strsAre_get hty (k := i) (z := padL x0.a (partL f c l x0.ds) x0.b) (by rw [htm, wideOf, List.getElem?_map, hcx]; rfl)
          obtain ⟨tg, hg0⟩ := hgv.get i (goneN (runLog f c l cells) i : Int) (by rw [List.getElem?_map, List.getElem?_range hlt]; rfl)
          walk_at "M.g9"
          refine name_own N28 (.tail _ (.head _)) hC28 (v := .int i t27) rfl ?_ rfl rfl rfl (by decide)
          walk_at "M.g9"
          refine item_led N28 (.tail _ (.tail _ (.tail _ (.tail _ (.tail _ (.head _)))))) (zz _) (z63 hlt hlen) (v := .str ty tt) (by rw [Int.toNat_natCast]; exact hty0) ?_
          walk_at "M.g9"
          refine name_own N28 (.tail _ (.head _)) hC28 (v := .int i t27) rfl ?_ rfl rfl rfl (by decide)
          walk_at "M.g9"
          refine item_led N28 (.tail _ (.tail _ (.tail _ (.head _)))) (zz _) (z63 hlt hlen) (v := .int (goneN (runLog f c l cells) i : Int) tg) (by rw [Int.toNat_natCast]; exact hg0) ?_
          walk_at "M.g9"
          refine sp_spec (dp := dp + 1) (un := un + 3) (a := x0.a) (b := x0.b) (body := partL f c l x0.ds) (c := d0) F28 X1 T1 (up hdp (by decide)) (up hun (by decide)) hty2 hd0h (hxo.ch d0 hd0m).1 hgx (by omega) ?_
          intro h29 tk29 t29 y29 E29 hy29
          obtain ⟨F29, N29⟩ := back0 F28 N28 E29
          walk_at "M.g9"
          have hwl : wys.length = i := by
            have := congrArg List.length hwm
            rw [List.length_map, List.length_take] at this
            simp only [textsOf, List.length_mapIdx] at this
            omega
          refine append_led (pre := [(it2, _), (acc2 + 1, _)]) F29 N29 nd28 (by rw [strsAre_length hwv]; omega) ?_
          intro h30 F30 N30 nd30
          have ei : ((i + 1 : Nat) : Int) = (i : Int) + 1 := rfl
          have el : (cells.length : Int) - (i : Int) - 1 = (cells.length : Int) - ((i : Int) + 1) := Int.sub_sub _ _ _
          rw [el, ← ei] at N30 nd30
          refine hPD (20 - (i + 1)) _ (dn20 hlt hlen) ⟨h30, _, i + 1, _, _, _, oC28, _, rfl, rfl, hlt, F30, N30, nd30, hC28, strsAre_snoc hwv _ _, ?_⟩
          rw [List.map_append, hwm, take_snoc htx, List.map_singleton, hy29]
        · have hie2 : i = cells.length := ieq hil hlt
          refine next_range_end rfl F26 N26 nd26 (zneg hlt) ?_
          intro h27 F27 N27 nd27
          refine comp_end (pre := []) F27 N27 nd27 hC26 ?_
          intro h28 F28 N28 nd28
          refine hQD _ _ ?_
          have hwm' : wys.map (·.cps.toList) = textsOf f c l cells (runLog f c l cells) := by
            rw [hwm, hie2, List.take_of_length_le]; simp [textsOf]
          have N28' : News s.heap L' h28 ((acc2, listOf wv.toArray n26) :: ([(acc, listOf gv.toArray n4), (DL, listOf lg1.toArray k3), (DW, listOf tv.toArray nW), (DT, listOf tv1.toArray k1), (L' + 1 + 1 + 1, oG21), (L' + 1 + 1, oK12), (L' + 1, oW9)] ++ R)) := N28
          have nd28' : Nd ((acc2, listOf wv.toArray n26) :: ([(acc, listOf gv.toArray n4), (DL, listOf lg1.toArray k3), (DW, listOf tv.toArray nW), (DT, listOf tv1.toArray k1), (L' + 1 + 1 + 1, oG21), (L' + 1 + 1, oK12), (L' + 1, oW9)] ++ R)) := nd28
          clear F27 N27 nd27 F26 N26 nd26 N28 nd28
          walk_at "M.g9"
          refine newTuple_led F28 N28' nd28' (Nat.le_of_ble_eq_true rfl) ?_
          intro RT h29 F29 N29 nd29
          walk_at "M.g9"
          exact hret h29 _ gens7 RT DL DT acc2 lg1 tv1 wv tys1 wys _ _ _ _ (fun b o e _ => F29.keep b o e) hb7 (N29 _ (.head _)).1 (N29 _ (.tail _ (.tail _ (.tail _ (.head _))))).1 (N29 _ (.tail _ (.tail _ (.tail _ (.tail _ (.tail _ (.head _))))))).1 (N29 _ (.tail _ (.head _))).1
            (hback [(RT, _), (acc2, _), (acc, _), (DL, _), (DW, _), (DT, _), (L' + 1 + 1 + 1, oG21), (L' + 1 + 1, oK12), (L' + 1, oW9)] h29 _ F29 N29) hty1 htm1 hwv hwm'
end Mine
end

/-! part LT -/
section
open PySem PySem.W PySem.Calls PyProof.Rows
set_option Elab.async false
set_option maxRecDepth 100000
set_option maxHeartbeats 8000000
namespace Mine

theorem lt_spec {w : World} {mean : ExcName → Option Value} {mg mb : Str → Option Value} {dp un : Nat} {gd : Option (List Code)} {fr : Option (List Env)} {s : Shared} {h₀ : Heap} {L : Addr} {m : Str → Option Value}
    {DC S : Addr} {cvs : List Value} {cells : List Cell} {nC : Nat} {f c l : Int} {t0 t1 t2 : Tok} {n : Nat} {Q E : Value → Shared → Prop}
    (F : Fr h₀ L s.heap m) (X : (hd.heap_39 w.params).In h₀) (T : Top hd.view_39 (looseW hd.view_39 []) mean mg mb h₀) (hdp : dp ≤ 660) (hun : un ≤ 60)
    (hC : s.heap.get? DC = some (listOf cvs.toArray nC)) (hcs : CellsAt s.heap cvs cells) (hlen : cells.length ≤ 12) (hlen0 : 2 ≤ (logAll cells).length) (hok : ∀ x ∈ cells, CellOk x) 
    (hS : s.heap.get? S = some (listOf #[.int f t0, .int c t1, .int l t2] n)) (hf : 1 ≤ f ∧ f ≤ 3) (hc : 1 ≤ c ∧ c ≤ 3) (hl : l = 0 ∨ l = 127 ∨ l = 2)
    (hret : ∀ (h' : Heap) (tk : Nat) (RT DL DT : Addr) (lg tv : List Value) (tys : List Str) (S : List (Int × Int)) (n1 n2 n4 : Nat), Ev [] s.heap h' → h'.get? RT = some { cls := .type "tuple", data := .seq #[.ref DL, .ref DT, .ref DT] n4 } →
      h'.get? DL = some (listOf lg.toArray n1) → h'.get? DT = some (listOf tv.toArray n2) → S.Perm (logAll cells) → S.Pairwise (fun x y => plt x y = true) → PairsAt h' lg (S.reverse.take (comT f c l cells).toNat) →
      StrsAre tv tys → tys.map (·.cps.toList) = tTexts f c l cells (S.reverse.take (comT f c l cells).toNat) → Q (.ref RT) { s with heap := h', toks := tk }) :
    wpAny (model Challenge.rw_oc0024_01.row.prog w) (ar dp un gd fr) (call (.ref 94) [.ref DC, .ref S]) Q E s := by
  revert X; k_fill; intro X
  k_dflt (refine' enterC (binds := [(Str.ofString "cells", .ref DC), (Str.ofString "sizes", .ref S)]) ?k2 ?k3 ?k5 ?k6 ?k7 ?k8 ?k9 ?kB ?kN ?_ ?c2 ?c3 ?c4)
  (case k2 => k_asm)
  (case k3 => k_asm)
  (case k5 => k_asm)
  (case k6 => k_is)
  (case k7 => k_is)
  (case k8 => ktr_room)
  (case k9 => exact BindsTo.of_eq rfl)
  (case kB => rfl)
  (case kN => decide)
  (case c2 => exact rfl)
  (case c3 => exact rfl)
  (case c4 => exact rfl)
  intro L' h1 tk1 cells1' F1 N1 Y1 X1 T1
  (try dsimp only)
  k_fold
  have F2 : Fr s.heap L' h1 (fun y => if y = Str.ofString "sizes" then some (.ref S) else if y = Str.ofString "cells" then some (.ref DC) else none) := F1
  clear F1
  have Y2 : CellsAre (fun _ => none) [(Str.ofString "k", L' + 1)] cells1' := Y1
  clear Y1
  obtain ⟨oK, rfl, hoK⟩ := cells1 Y2
  clear Y2
  have nd1 : Nd [(L' + 1, oK)] := by simp [Nd]
  walk_at "M.g10"
  refine newList_led F2 N1 nd1 (Nat.le_of_ble_eq_true rfl) ?_
  intro DL h3 F3 N3 nd3
  walk_at "M.g10"
  (with_reducible rename Fr _ _ _ _ => F4)
  (with_reducible rename News _ _ _ _ => N4)
  refine newList_led F4 N4 nd3 (Nat.le_of_ble_eq_true rfl) ?_
  intro DP h5 F5 N5 nd5
  walk_at "M.g10"
  (with_reducible rename Fr _ _ _ _ => F6)
  (with_reducible rename News _ _ _ _ => N6)
  have hClist : s.heap.IsList DC cvs.toArray := PySem.IsL.isList hC
  have hcl := hcs.length
  refine wpAny_mono (forM (Q := fun fl s' => Box (A2 (fl = .next) (X11 fun (h1 : Heap) (tk : Nat) (m1 : Str → Option Value) (lv pv : List Value) (pys : List Str) (tc : Tok) (n1 n2 : Nat) (oK1 : Obj) (v0 : Option Value) => A12 (s' = { s with heap := h1, toks := tk }) (Fr s.heap L' h1 m1) (m1 (Str.ofString "cells") = some (.ref DC)) (m1 (Str.ofString "log") = some (.ref DL)) (m1 (Str.ofString "parted") = some (.ref DP)) (m1 (Str.ofString "commas") = some (.int (comT f c l cells) tc)) (News s.heap L' h1 [(DP, listOf pv.toArray n1), (DL, listOf lv.toArray n2), (L' + 1, oK1)]) (Nd [(DP, listOf pv.toArray n1), (DL, listOf lv.toArray n2), (L' + 1, oK1)]) (oK1.data = .cell v0) (StrsAre pv pys) (pys.map (·.cps.toList) = cells.map (fun x => toldL f c l x.ds)) (PairsAt h1 lv (logAll cells))))) ?iter) ?cont (fun _ _ x => x)
  case cont =>
    clear F6 N6 nd5 nd3
    rintro fl s' ⟨rfl, h9, tk9, m9, lv, pv, pys, tc, n1, n2, oK9, v09, rfl, F9, q1, q3, q4, q5, N9, nd9, hoK9, hpy, hpm, hpr⟩
    replace F9 := fr_bnd F9 [(Str.ofString "cells", .ref DC), (Str.ofString "log", .ref DL), (Str.ofString "parted", .ref DP), (Str.ofString "commas", .int (comT f c l cells) tc)] (bd q1 (bd q3 (bd q4 (bd q5 bd0))))
    clear q1 q3 q4 q5
    have hoff9 : ∀ b o, h9.get? b = some o → TupO o → b ∉ [L', DP, DL, L' + 1] := fun b o q1 q2 => tup_off2 F9 N9 (nt1 (nt_cls (show Value.type "list" ≠ Value.type "tuple" by decide)) (nt1 (nt_cls (show Value.type "list" ≠ Value.type "tuple" by decide)) (nt1 (nt_cell hoK9) nt0))) q1 q2
    have N9' := news_snap N9 (L := L') (ex := [L', DP, DL, L' + 1]) (.head _)
    have nd9' := nd_snap (h := h9) (g := s.heap) (ex := [L', DP, DL, L' + 1]) nd9 snap_mem
    have hk9 : ∀ b o, s.heap.get? b = some o → h9.get? b = some o := F9.keep
    have hback : ∀ own h' m', Fr s.heap L' h' m' → News s.heap L' h' (own ++ others h9 s.heap [L', DP, DL, L' + 1]) → PairsAt h' lv (logAll cells) := fun own h' m' F' N' => hpr.keepsT fun b o q1 q2 => snap_back hk9 F' N' q1 (hoff9 b o q1 q2)
    generalize others h9 s.heap [L', DP, DL, L' + 1] = R at N9' nd9' hback
    clear N9 nd9 hoff9 hk9
    have hpl : pys.length = cells.length := by
      have := congrArg List.length hpm
      simpa only [List.length_map] using this
    have hfacts := logAll_facts cells cells.length (Nat.le_refl _)
    have hll := logAll_len hok cells.length (Nat.le_refl _)
    rw [List.take_length] at hfacts hll
    dsimp only
    walk_at "M.g10"
    refine sorted_led F9 N9' nd9' (N9' _ (.tail _ (.head _))).1 (fun h' m' F' N' => hback [(DP, _), (DL, _), (L' + 1, _)] h' m' F' N') (fun p hp => by have := hfacts.2 p hp; omega) hfacts.1 hlen0 (by omega) ?_
    intro D h10 c10 sv S F10 N10 nd10 hperm hsort hpick
    have hsvl : sv.length = (logAll cells).length := by
      rw [(hpick _ (hback [(DP, _), (DL, _), (L' + 1, _)] _ _ F9 N9')).length, hperm.length_eq]
    clear F9 N9' nd9'
    have hct : 0 ≤ comT f c l cells := comT_nonneg f c l cells
    walk_at "M.g10"
    dsimp only
    refine slice_anyL (s := { s with heap := h10, toks := _ }) (ws := sv.reverse) F10 N10 nd10 (PySem.IsL.isList (n := c10) (N10 _ (.head _)).1) .none .none (IsPart.int _ _) (by decide) (by rw [krv_pick]) ?_ (by with_unfolding_all rfl) (by rw [List.size_toArray, sizeLine_eq]; omega)
    intro D2 h11 F11 N11 nd11
    walk_at "M.g10"
    dsimp only
    refine slice_anyL (s := { s with heap := h11, toks := _ }) (ws := sv.reverse.take (comT f c l cells).toNat) F11 N11 nd11 (PySem.IsL.isList (n := 0) (N11 _ (.head _)).1) .none (IsPart.int _ _) .none (by decide) (pick_upto hct) ?_ (by with_unfolding_all rfl) (by rw [List.size_toArray, List.length_reverse, sizeLine_eq]; omega)
    intro D3 h12 F12 N12 nd12
    walk_at "M.g10"
    (with_reducible rename Fr _ _ _ _ => F13)
    (with_reducible rename News _ _ _ _ => N13)
    clear nd11
    have hbackT : ∀ own h' m', Fr s.heap L' h' m' → News s.heap L' h' (own ++ R) → PairsAt h' (sv.reverse.take (comT f c l cells).toNat) (S.reverse.take (comT f c l cells).toNat) := fun own h' m' F' N' => ((hpick _ (hback own h' m' F' N')).reverse).take _
    have hTLl : (S.reverse.take (comT f c l cells).toNat).length ≤ 1000 := by
      rw [List.length_take, List.length_reverse, hperm.length_eq]; omega
    generalize hTL : S.reverse.take (comT f c l cells).toNat = TL at hbackT hTLl
    generalize sv.reverse.take (comT f c l cells).toNat = tlv at hbackT N13 nd12
    replace N13 := news_sub (l' := [(D3, listOf tlv.toArray 0), (DP, listOf pv.toArray n1), (L' + 1, oK9)] ++ R) N13 (by intro p hp; simp only [List.mem_append, List.mem_cons, List.not_mem_nil, or_false] at hp ⊢; rcases hp with (h | h | h) | h <;> simp [h])
    replace nd12 := nd_sub (l' := [(D3, listOf tlv.toArray 0), (DP, listOf pv.toArray n1), (L' + 1, oK9)] ++ R) nd12 (.cons₂ _ (.cons _ (.cons _ (.cons₂ _ (.cons _ (.cons₂ _ (List.Sublist.refl _)))))))
    refine newList_led F13 N13 nd12 (Nat.le_of_ble_eq_true rfl) ?_
    intro DX h14 F14 N14 nd14
    walk_at "M.g10"
    (with_reducible rename Fr _ _ _ _ => F15)
    (with_reducible rename News _ _ _ _ => N15)
    clear nd12
    refine wpAny_mono (forM (Q := fun fl s' => Box (A2 (fl = .next) (X7 fun (h1 : Heap) (tk : Nat) (m1 : Str → Option Value) (xv : List Value) (xys : List Str) (n3 : Nat) (oK1 : Obj) => A8 (s' = { s with heap := h1, toks := tk }) (Fr s.heap L' h1 m1) (m1 (Str.ofString "log") = some (.ref D3)) (m1 (Str.ofString "texts") = some (.ref DX)) (News s.heap L' h1 ((DX, listOf xv.toArray n3) :: ([(D3, listOf tlv.toArray 0), (DP, listOf pv.toArray n1), (L' + 1, oK1)] ++ R))) (Nd ((DX, listOf xv.toArray n3) :: ([(D3, listOf tlv.toArray 0), (DP, listOf pv.toArray n1), (L' + 1, oK1)] ++ R))) (StrsAre xv xys) (xys.map (·.cps.toList) = tTexts f c l cells TL)))) ?iter3) ?cont3 (fun _ _ x => x)
    case cont3 =>
      clear F15 N15
      rintro fl s' ⟨rfl, h16, tk16, m16, xv, xys, n3, oK16, rfl, F16, q1, q2, N16, nd16, hxy, hxm⟩
      replace F16 := fr_bnd F16 [(Str.ofString "log", .ref D3), (Str.ofString "texts", .ref DX)] (bd q1 (bd q2 bd0))
      clear q1 q2
      dsimp only
      walk_at "M.g10"
      refine newTuple_led F16 N16 nd16 (Nat.le_of_ble_eq_true rfl) ?_
      intro RT h17 F17 N17 nd17
      walk_at "M.g10"
      exact hret h17 _ RT D3 DX tlv xv xys S _ _ _ (fun b o e _ => F17.keep b o e) (N17 _ (.head _)).1 (N17 _ (.tail _ (.tail _ (.head _)))).1 (N17 _ (.tail _ (.head _))).1 hperm hsort
        (hTL.symm ▸ hbackT [(RT, _), (DX, _), (D3, _), (DP, _), (L' + 1, _)] h17 _ F17 N17) hxy (hTL.symm ▸ hxm)
    case iter3 =>
      walk_at "M.g10"
      refine call_len_list (hClist.at fun o e => F15.keep _ o e) (by rw [List.size_toArray, hcl]; omega) ?_
      rw [show ((cvs.toArray.size : Nat) : Int) = (cells.length : Int) by rw [List.size_toArray, hcl]]
      walk_at "M.g10"
      refine range1_led F15 N15 nd14 ?_
      intro r h16 tk16 t161 t162 F16 N16 nd16
      walk_at "M.g10"
      refine iter_range_led F16 N16 nd16 (Int.le_refl 0) (by decide) (zz _) (z1000 (Nat.le_trans hlen (by decide))) ?_
      intro it h17 F17 N17 nd17
      refine ⟨fun k s' => Box (X9 fun (h1 : Heap) (tk : Nat) (m1 : Str → Option Value) (i : Nat) (xv : List Value) (xys : List Str) (n3 : Nat) (oK1 : Obj) (v0 : Option Value) => A13 (s' = { s with heap := h1, toks := tk }) (k = 20 - i) (i ≤ cells.length) (Fr s.heap L' h1 m1) (m1 (Str.ofString "cells") = some (.ref DC)) (m1 (Str.ofString "log") = some (.ref D3)) (m1 (Str.ofString "parted") = some (.ref DP)) (m1 (Str.ofString "texts") = some (.ref DX)) (News s.heap L' h1 ((it, riObj i (cells.length - i) 1) :: (DX, listOf xv.toArray n3) :: ([(D3, listOf tlv.toArray 0), (DP, listOf pv.toArray n1), (L' + 1, oK1)] ++ R))) (Nd ((it, riObj i (cells.length - i) 1) :: (DX, listOf xv.toArray n3) :: ([(D3, listOf tlv.toArray 0), (DP, listOf pv.toArray n1), (L' + 1, oK1)] ++ R))) (oK1.data = .cell v0) (StrsAre xv xys) (xys.map (·.cps.toList) = (tTexts f c l cells TL).take i)), 20,
        ⟨h17, _, _, 0, [], [], 0, oK9, v09, rfl, rfl, Nat.zero_le _, F17, rfl, rfl, rfl, rfl, N17, nd17, hoK9, .nil, rfl⟩, fun _ => rfl, ?_⟩
      clear F17 N17 nd17 F16 N16 nd16 F15 N15 nd14 hoK9
      rintro k P3 hP3 s' ⟨h18, tk18, m18, i, xv, xys, n3, oK18, v018, rfl, rfl, hi, F18, q1, q2, q3, q4, N18, nd18, hoK18, hxy, hxm⟩
      by_cases hlt : i < cells.length
      · obtain ⟨cv, hcv, hcell⟩ := hcs.get (List.getElem?_eq_getElem hlt)
        have hxs : cells[i]? = some cells[i] := List.getElem?_eq_getElem hlt
        have hxo : CellOk cells[i] := hok _ (List.getElem_mem hlt)
        generalize cells[i] = x at hcell hxs hxo
        obtain ⟨ca, cy, ct, cu, ct', cn, rfl, hca, hcy⟩ := hcell
        have hxl := hxo.len
        have hxa := hxo.a
        have hxb := hxo.b
        have htx := tTexts_get (f := f) (c := c) (l := l) (ls := TL) hxs
        obtain ⟨py, pt, hpy0, hpy1⟩ := strsAre_get hpy (k := i) (z := toldL f c l x.ds) (by rw [hpm, List.getElem?_map, hxs]; rfl)
        refine next_range_led F18 N18 nd18 (zpos hlt) ?_
        intro h19 tk19 t19 F19 N19 nd19
        replace F19 := fr_bnd F19 [(Str.ofString "cells", .ref DC), (Str.ofString "log", .ref D3), (Str.ofString "parted", .ref DP), (Str.ofString "texts", .ref DX)] (bd q1 (bd q2 (bd q3 (bd q4 bd0))))
        clear q1 q2 q3 q4 F18 N18 nd18
        have ei : ((i + 1 : Nat) : Int) = (i : Int) + 1 := rfl
        have el : (cells.length : Int) - (i : Int) - 1 = (cells.length : Int) - ((i : Int) + 1) := Int.sub_sub _ _ _
        rw [el, ← ei] at N19 nd19
        unfold ForP
        refine wpAny_assign_Name (storeC_led (pre := [(it, _), (DX, _), (D3, _), (DP, _)]) F19 N19 nd19 rfl hoK18 ?_ rfl rfl)
        intro h20 oK20 F20 N20 nd20 hoK20
        clear F19 N19 nd19
        walk_at "M.g10"
        refine filt (K := L' + 1) (cl := [(Str.ofString "k", L' + 1)]) (DL := D3) (lg := tlv) (n3 := 0) (ls := TL) (kk := i) rfl (by rfl) (by rfl) (fun _ => rfl) (fun _ => rfl) (fun _ => rfl)
          (fun Q' hQ' => nameX_L F20 rfl hQ') F20 N20 nd20 (.tail _ (.tail _ (.tail _ (.tail _ (.head _))))) hoK20 (.tail _ (.tail _ (.head _)))
          (fun h' m' F' N' => hbackT [(it, _), (DX, _), (D3, _), (DP, _), (L' + 1, _)] h' m' F' N') hTLl ?_
        intro D5 h21 tk21 ov n21 F21 N21 nd21 hov
        have hovl : ov.length ≤ 1000 := by
          have := List.countP_le_length (p := fun (p : Int × Int) => p.2 == -(i : Int)) (l := TL)
          omega
        walk_at "M.g10"
        refine call_len_list (PySem.IsL.isList (n := n21) (N21 _ (.head _)).1) (by rw [List.size_toArray]; omega) ?_
        rw [show ((ov.toArray.size : Nat) : Int) = (goneN TL i : Int) by rw [List.size_toArray, hov]; rfl]
        have hgl : goneN TL i ≤ 1000 := by
          have : goneN TL i = ov.length := hov.symm
          omega
        walk_at "M.g10"
        (with_reducible rename Fr _ _ _ _ => F22)
        (with_reducible rename News _ _ _ _ => N22)
        refine item_at (hClist.at fun o e => F22.keep _ o e) (zz _) (z63 hlt (Nat.le_trans hlen (by decide))) (v := .ref ca) hcv ?_
        walk_at "M.g10"
        refine item_c0 (F22.keep _ _ hca) ?_
        walk_at "M.g10"
        (with_reducible rename Fr _ _ _ _ => F23)
        (with_reducible rename News _ _ _ _ => N23)
        refine item_at (hClist.at fun o e => F23.keep _ o e) (zz _) (z63 hlt (Nat.le_trans hlen (by decide))) (v := .ref ca) hcv ?_
        walk_at "M.g10"
        refine item_c2 (F23.keep _ _ hca) ?_
        walk_at "M.g10"
        refine item_at (hClist.at fun o e => F23.keep _ o e) (zz _) (z63 hlt (Nat.le_trans hlen (by decide))) (v := .ref ca) hcv ?_
        walk_at "M.g10"
        refine item_c0 (F23.keep _ _ hca) ?_
        walk_at "M.g10"
        (with_reducible rename Fr _ _ _ _ => F24)
        (with_reducible rename News _ _ _ _ => N24)
        refine mul_blank (x.a - goneN TL i) (by split <;> omega) (by split <;> omega) (by split <;> omega) ?_
        intro y25 tk25 t25 hy25
        walk_at "M.g10"
        refine item_led N24 (.tail _ (.tail _ (.tail _ (.tail _ (.head _))))) (zz _) (z63 hlt (Nat.le_trans hlen (by decide))) (v := .str py pt) (by rw [Int.toNat_natCast]; exact hpy0) ?_
        walk_at "M.g10"
        have htl := toldL_len (f := f) (c := c) (l := l) (ds := x.ds)
        refine add_gen hy25 hpy1 (by rw [List.length_replicate]; omega) ?_
        intro y26 tk26 t26 hy26
        walk_at "M.g10"
        refine mul_blank (x.b - (goneN TL i - x.a)) (by split <;> omega) (by split <;> omega) (by split <;> omega) ?_
        intro y27 tk27 t27 hy27
        walk_at "M.g10"
        refine add_gen hy26 hy27 (by rw [List.length_append, List.length_replicate, List.length_replicate]; omega) ?_
        intro y28 tk28 t28 hy28
        walk_at "M.g10"
        have hxl2 : xys.length = i := by
          have := congrArg List.length hxm
          rw [List.length_map, List.length_take] at this
          simp only [tTexts, List.length_mapIdx] at this
          omega
        refine append_led (pre := [(D5, _), (it, _)]) F24 N24 nd21 (by rw [strsAre_length hxy]; omega) ?_
        intro h29 F29 N29 nd29
        walk_at "M.g10"
        refine hP3 .next _ ⟨20 - (i + 1), dn20 hlt (Nat.le_trans hlen (by decide)), h29, _, _, i + 1, xv ++ [Value.str y28 t28], xys ++ [y28], n3 + 1, oK20, _, rfl, rfl, hlt, F29, rfl, rfl, rfl, rfl, news_tail (p := (D5, listOf ov.toArray n21)) N29, nd_tail (p := (D5, listOf ov.toArray n21)) nd29, hoK20, strsAre_snoc hxy _ _, ?_⟩
        rw [List.map_append, hxm, take_snoc htx, List.map_singleton, hy28, List.append_assoc]; rfl
      · refine next_range_end rfl F18 N18 nd18 (zneg hlt) ?_
        intro h19 F19 N19 nd19
        have hie : i = cells.length := ieq hi hlt
        rw [hie, List.take_of_length_le (by simp [tTexts])] at hxm
        exact hP3 .brk _ ⟨rfl, h19, _, _, xv, xys, n3, oK18, rfl, F19, q2, q4, N19, nd19, hxy, hxm⟩
  case iter =>
    walk_at "M.g10"
    refine call_len_list (hClist.at fun o e => F6.keep _ o e) (by rw [List.size_toArray, hcl]; omega) ?_
    rw [show ((cvs.toArray.size : Nat) : Int) = (cells.length : Int) by rw [List.size_toArray, hcl]]
    walk_at "M.g10"
    refine range1_led F6 N6 nd5 ?_
    intro r h7 tk7 t71 t72 F7 N7 nd7
    walk_at "M.g10"
    refine iter_range_led F7 N7 nd7 (Int.le_refl 0) (by decide) (zz _) (z1000 (Nat.le_trans hlen (by decide))) ?_
    intro it h8 F8 N8 nd8
    refine ⟨fun k s' => Box (X12 fun (h1 : Heap) (tk : Nat) (m1 : Str → Option Value) (i : Nat) (lv pv : List Value) (pys : List Str) (tc : Tok) (n1 n2 : Nat) (oK1 : Obj) (v0 : Option Value) => A15 (s' = { s with heap := h1, toks := tk }) (k = 20 - i) (i ≤ cells.length) (Fr s.heap L' h1 m1) (m1 (Str.ofString "cells") = some (.ref DC)) (m1 (Str.ofString "sizes") = some (.ref S)) (m1 (Str.ofString "log") = some (.ref DL)) (m1 (Str.ofString "parted") = some (.ref DP)) (m1 (Str.ofString "commas") = some (.int (comT f c l (cells.take i)) tc)) (News s.heap L' h1 [(it, riObj i (cells.length - i) 1), (DP, listOf pv.toArray n1), (DL, listOf lv.toArray n2), (L' + 1, oK1)]) (Nd [(it, riObj i (cells.length - i) 1), (DP, listOf pv.toArray n1), (DL, listOf lv.toArray n2), (L' + 1, oK1)]) (oK1.data = .cell v0) (StrsAre pv pys) (pys.map (·.cps.toList) = (cells.take i).map (fun x => toldL f c l x.ds)) (PairsAt h1 lv (logAll (cells.take i)))), 20,
      ⟨h8, _, _, 0, [], [], [], _, 0, 0, oK, none, rfl, rfl, Nat.zero_le _, F8, rfl, rfl, rfl, rfl, rfl, N8, nd8, hoK, .nil, rfl, .nil⟩, fun _ => rfl, ?_⟩
    clear F8 N8 nd8 F7 N7 nd7 F6 N6 nd5 nd3 hoK
    rintro k P1 hP1 s' ⟨h9, tk9, m9, i, lv, pv, pys, tc, n1, n2, oK9, v09, rfl, rfl, hi, F9, q1, q2, q3, q4, q5, N9, nd9, hoK9, hpy, hpm, hpr⟩
    have hoff9 : ∀ b o, h9.get? b = some o → TupO o → b ∉ [L', it, DP, DL, L' + 1] := fun b o q1 q2 => tup_off2 F9 N9 (nt1 (nt_cls (show Value.type "range_iterator" ≠ Value.type "tuple" by decide)) (nt1 (nt_cls (show Value.type "list" ≠ Value.type "tuple" by decide)) (nt1 (nt_cls (show Value.type "list" ≠ Value.type "tuple" by decide)) (nt1 (nt_cell hoK9) nt0)))) q1 q2
    have N9' := news_snap N9 (L := L') (ex := [L', it, DP, DL, L' + 1]) (.head _)
    have nd9' := nd_snap (h := h9) (g := s.heap) (ex := [L', it, DP, DL, L' + 1]) nd9 snap_mem
    have hk9 : ∀ b o, s.heap.get? b = some o → h9.get? b = some o := F9.keep
    have hback : ∀ own h' m', Fr s.heap L' h' m' → News s.heap L' h' (own ++ others h9 s.heap [L', it, DP, DL, L' + 1]) → PairsAt h' lv (logAll (cells.take i)) := fun own h' m' F' N' => hpr.keepsT fun b o q1 q2 => snap_back hk9 F' N' q1 (hoff9 b o q1 q2)
    generalize others h9 s.heap [L', it, DP, DL, L' + 1] = R at N9' nd9' hback
    have hpl : pys.length = i := by
      have := congrArg List.length hpm
      simp only [List.length_map, List.length_take] at this
      omega
    have hlvl : lv.length ≤ 5 * i := by rw [hpr.length]; exact logAll_len hok i hi
    clear N9 nd9
    by_cases hlt : i < cells.length
    · obtain ⟨cv, hcv, hcell⟩ := hcs.get (List.getElem?_eq_getElem hlt)
      have hxs : cells[i]? = some cells[i] := List.getElem?_eq_getElem hlt
      have hxo : CellOk cells[i] := hok _ (List.getElem_mem hlt)
      generalize cells[i] = x at hcell hxs hxo
      obtain ⟨ca, cy, ct, cu, ct', cn, rfl, hca, hcy⟩ := hcell
      have hcl1 : cy.length = x.ds.length := by rw [← hcy]; simp [Str.length]
      have hxl := hxo.len
      have hxa := hxo.a
      have hxb := hxo.b
      have hxp : 0 < x.ds.length := List.length_pos_iff.mpr hxo.ds
      have hcl2 : cy.length ≤ 16 := by omega
      refine next_range_led F9 N9' nd9' (zpos hlt) ?_
      intro h10 tk10 t10 F10 N10 nd10
      replace F10 := fr_bnd F10 [(Str.ofString "cells", .ref DC), (Str.ofString "sizes", .ref S), (Str.ofString "log", .ref DL), (Str.ofString "parted", .ref DP), (Str.ofString "commas", .int (comT f c l (cells.take i)) tc)] (bd q1 (bd q2 (bd q3 (bd q4 (bd q5 bd0)))))
      clear q1 q2 q3 q4 q5
      unfold ForP
      refine wpAny_assign_Name (storeC_led (pre := [(it, _), (DP, _), (DL, _)]) F10 N10 nd10 rfl hoK9 ?_ rfl rfl)
      intro h11 oK11 F11 N11 nd11 hoK11
      have ei : ((i + 1 : Nat) : Int) = (i : Int) + 1 := rfl
      have el : (cells.length : Int) - (i : Int) - 1 = (cells.length : Int) - ((i : Int) + 1) := Int.sub_sub _ _ _
      rw [el, ← ei] at N11 nd11
      replace N11 : News s.heap L' h11 ([(it, riObj ((i + 1 : Nat) : Int) (cells.length - ((i + 1 : Nat) : Int)) 1), (DP, listOf pv.toArray n1), (DL, listOf lv.toArray n2), (L' + 1, oK11)] ++ R) := N11
      replace nd11 : Nd ([(it, riObj ((i + 1 : Nat) : Int) (cells.length - ((i + 1 : Nat) : Int)) 1), (DP, listOf pv.toArray n1), (DL, listOf lv.toArray n2), (L' + 1, oK11)] ++ R) := nd11
      clear N10 nd10 F10 N9' nd9' F9
      walk_at "M.g10"
      refine item_at (hClist.at fun o e => F11.keep _ o e) (zz _) (z63 hlt (Nat.le_trans hlen (by decide))) (v := .ref ca) hcv ?_
      refine unpackN_ F11 N11 ⟨_, F11.keep _ _ hca, rfl, _, rfl⟩ rfl rfl rfl (fun h12 F12 N12 => ?_)
      walk_at "M.g10"
      (with_reducible rename Fr _ _ _ _ => F13)
      (with_reducible rename News _ _ _ _ => N13)
      refine item_strM (i := 0) (c := x.ds.getD 0 0) (by rw [hcy]; rw [List.getD_eq_getElem?_getD, List.getElem?_eq_getElem hxp]; rfl) (by omega) fun tk14 t14 => ?_
      walk_at "M.g10"
      (with_reducible rename Fr _ _ _ _ => F15)
      (with_reducible rename News _ _ _ _ => N15)
      refine wpAny_mono (forM (Q := fun fl s' => Box (A2 (fl = .next) (X6 fun (h1 : Heap) (tk : Nat) (m1 : Str → Option Value) (y : Str) (ty tc : Tok) => A12 (s' = { s with heap := h1, toks := tk }) (Fr s.heap L' h1 m1) (m1 (Str.ofString "cells") = some (.ref DC)) (m1 (Str.ofString "sizes") = some (.ref S)) (m1 (Str.ofString "log") = some (.ref DL)) (m1 (Str.ofString "parted") = some (.ref DP)) (m1 (Str.ofString "commas") = some (.int (comT f c l (cells.take (i + 1))) tc)) (m1 (Str.ofString "ahead") = some (.int x.a ct)) (m1 (Str.ofString "behind") = some (.int x.b ct')) (m1 (Str.ofString "text") = some (.str y ty)) (News s.heap L' h1 ([(it, riObj ((i + 1 : Nat) : Int) (cells.length - ((i + 1 : Nat) : Int)) 1), (DP, listOf pv.toArray n1), (DL, listOf lv.toArray n2), (L' + 1, oK11)] ++ R)) (y.cps.toList = toldL f c l x.ds)))) ?iter2) ?cont2 (fun _ _ x => x)
      case cont2 =>
        clear F15 N15
        rintro fl s' ⟨rfl, h18, tk18, m18, y, ty, tc18, rfl, F18, q1, q2, q3, q4, q5, q6, q7, q8, N18, hy⟩
        replace F18 := fr_bnd F18 [(Str.ofString "cells", .ref DC), (Str.ofString "sizes", .ref S), (Str.ofString "log", .ref DL), (Str.ofString "parted", .ref DP), (Str.ofString "commas", .int (comT f c l (cells.take (i + 1))) tc18), (Str.ofString "ahead", .int x.a ct), (Str.ofString "behind", .int x.b ct'), (Str.ofString "text", .str y ty)] (bd q1 (bd q2 (bd q3 (bd q4 (bd q5 (bd q6 (bd q7 (bd q8 bd0))))))))
        clear q1 q2 q3 q4 q5 q6 q7 q8
        dsimp only
        walk_at "M.g10"
        refine append_led (pre := [(it, _)]) F18 N18 nd11 (by rw [strsAre_length hpy]; omega) ?_
        intro h19 F19 N19 nd19
        have hpr19 : PairsAt h19 lv (logAll (cells.take i)) := hback [(it, _), (DP, _), (DL, _), (L' + 1, _)] h19 _ F19 N19
        clear F18 N18 nd11 hback
        replace N19 : News s.heap L' h19 [(it, riObj ((i + 1 : Nat) : Int) (cells.length - ((i + 1 : Nat) : Int)) 1), (DP, listOf (pv ++ [Value.str y ty]).toArray (n1 + 1)), (DL, listOf lv.toArray n2), (L' + 1, oK11)] := news_subS N19 (by walk_at "M.sub")
        replace nd19 : Nd [(it, riObj ((i + 1 : Nat) : Int) (cells.length - ((i + 1 : Nat) : Int)) 1), (DP, listOf (pv ++ [Value.str y ty]).toArray (n1 + 1)), (DL, listOf lv.toArray n2), (L' + 1, oK11)] := nd_sub nd19 (by walk_at "M.sub")
        walk_at "M.g10"
        refine compM (cl := [(Str.ofString "k", L' + 1)]) (by rfl) rfl (by decide) ?_
        walk_at "M.g10"
        have hoff19 : ∀ b o, h19.get? b = some o → TupO o → b ∉ [L', it, DP, DL, L' + 1] := fun b o q1 q2 => tup_off2 F19 N19 (nt1 (nt_cls (show Value.type "range_iterator" ≠ Value.type "tuple" by decide)) (nt1 (nt_cls (show Value.type "list" ≠ Value.type "tuple" by decide)) (nt1 (nt_cls (show Value.type "list" ≠ Value.type "tuple" by decide)) (nt1 (nt_cell hoK11) nt0)))) q1 q2
        have N19' := news_snap N19 (L := L') (ex := [L', it, DP, DL, L' + 1]) (.head _)
        have nd19' := nd_snap (h := h19) (g := s.heap) (ex := [L', it, DP, DL, L' + 1]) nd19 snap_mem
        have hk19 : ∀ b o, s.heap.get? b = some o → h19.get? b = some o := F19.keep
        refine range2_led F19 N19' nd19' ?_
        intro r3 h20 tk20 t20 F20 N20 nd20
        walk_at "M.g10"
        refine iter_range_led F20 N20 nd20 (by omega) (by omega) (by omega) (by omega) ?_
        intro it3 h21 F21 N21 nd21
        obtain ⟨F22, N22, nd22⟩ := start0 (s := { s with heap := h21 }) F21 N21 nd21
        dsimp only at F22 N22 nd22
        unfold CompAt
        dsimp only
        generalize h21.objs.size = acc at *
        have N23 := news_front (pre := [(acc + 1, mapO), (acc, listOf (List.toArray []) 0)]) N22
        have nd23 := nd_front (pre := [(acc + 1, mapO), (acc, listOf (List.toArray []) 0)]) nd22
        have hpr23 : PairsAt ((h21.push nilO).push mapO) lv (logAll (cells.take i)) := hpr19.keepsT fun b o q1 q2 => snap_back (own := [(it3, _), (acc + 1, mapO), (acc, _), (it, _), (DP, _), (DL, _), (L' + 1, oK11)]) hk19 F22 N23 q1 (hoff19 b o q1 q2)
        replace N23 := news_subS (l' := [(it3, riObj 1 ((x.a : Int) + x.b + 1 - 1) 1), (acc + 1, mapO), (acc, listOf (List.toArray []) 0), (it, riObj ((i + 1 : Nat) : Int) (cells.length - ((i + 1 : Nat) : Int)) 1), (DP, listOf (pv ++ [Value.str y ty]).toArray (n1 + 1)), (DL, listOf lv.toArray n2), (L' + 1, oK11)]) N23 (by walk_at "M.sub")
        replace nd23 := nd_sub (l' := [(it3, riObj 1 ((x.a : Int) + x.b + 1 - 1) 1), (acc + 1, mapO), (acc, listOf (List.toArray []) 0), (it, riObj ((i + 1 : Nat) : Int) (cells.length - ((i + 1 : Nat) : Int)) 1), (DP, listOf (pv ++ [Value.str y ty]).toArray (n1 + 1)), (DL, listOf lv.toArray n2), (L' + 1, oK11)]) nd23 (by walk_at "M.sub")
        have e0 : (x.a : Int) + x.b + 1 - 1 = (x.a : Int) + x.b - ((0 : Nat) : Int) := by omega
        rw [e0] at N23 nd23
        clear F20 N20 nd20 F21 N21 nd21 N22 nd22 N19 nd19 N19' nd19' hoff19
        refine ⟨fun k s' => Box (X7 fun (h1 : Heap) (tk : Nat) (j : Nat) (av : List Value) (n : Nat) (oC : Obj) (m₂ : Str → Option Value) => A9 (s' = { s with heap := h1, toks := tk }) (k = 20 - j) (j ≤ x.a + x.b) (Fr s.heap L' h1 (bnd [(Str.ofString "cells", .ref DC), (Str.ofString "sizes", .ref S), (Str.ofString "log", .ref DL), (Str.ofString "parted", .ref DP), (Str.ofString "commas", .int (comT f c l (cells.take (i + 1))) tc18), (Str.ofString "ahead", .int x.a ct), (Str.ofString "behind", .int x.b ct'), (Str.ofString "text", .str y ty)] m18)) (News s.heap L' h1 [(it3, riObj ((j : Int) + 1) ((x.a : Int) + x.b - (j : Nat)) 1), (acc + 1, oC), (acc, listOf av.toArray n), (it, riObj ((i + 1 : Nat) : Int) (cells.length - ((i + 1 : Nat) : Int)) 1), (DP, listOf (pv ++ [Value.str y ty]).toArray (n1 + 1)), (DL, listOf lv.toArray n2), (L' + 1, oK11)]) (Nd [(it3, riObj ((j : Int) + 1) ((x.a : Int) + x.b - (j : Nat)) 1), (acc + 1, oC), (acc, listOf av.toArray n), (it, riObj ((i + 1 : Nat) : Int) (cells.length - ((i + 1 : Nat) : Int)) 1), (DP, listOf (pv ++ [Value.str y ty]).toArray (n1 + 1)), (DL, listOf lv.toArray n2), (L' + 1, oK11)]) (LCg.NsObj oC m₂) (PairsAt h1 lv (logAll (cells.take i))) (PairsAt h1 av (logRow i j))), 20, ⟨_, _, 0, [], 0, mapO, _, rfl, rfl, Nat.zero_le _, F22, N23, nd23, nsObj_mapO, hpr23, .nil⟩, fun _ => rfl, ?_, ?_⟩
        · rintro Q' E' s' hq ⟨h4, tk4, j, av, n4, oC4, m4, rfl, hj, hjl, F4, N4, nd4, hC4, hp4, ha4⟩
          exact iter_ri_led N4 hq
        clear F22 N23 nd23 hpr23 hpr19 hk19 F19
        rintro k PC hPC QC hQC s' ⟨h24, tk24, j, av, n24, oC24, m24, rfl, rfl, hjl, F24, N24, nd24, hC24, hpl24, hpa24⟩
        by_cases hlj : j < x.a + x.b
        · have hoff24 : ∀ b o, h24.get? b = some o → TupO o → b ∉ [L', it3, acc + 1, acc, it, DP, DL, L' + 1] := fun b o q1 q2 => tup_off2 F24 N24 (nt1 (nt_cls (show Value.type "range_iterator" ≠ Value.type "tuple" by decide)) (nt1 (nt_ns hC24) (nt1 (nt_cls (show Value.type "list" ≠ Value.type "tuple" by decide)) (nt1 (nt_cls (show Value.type "range_iterator" ≠ Value.type "tuple" by decide)) (nt1 (nt_cls (show Value.type "list" ≠ Value.type "tuple" by decide)) (nt1 (nt_cls (show Value.type "list" ≠ Value.type "tuple" by decide)) (nt1 (nt_cell hoK11) nt0))))))) q1 q2
          have N24' := news_snap N24 (L := L') (ex := [L', it3, acc + 1, acc, it, DP, DL, L' + 1]) (.head _)
          have nd24' := nd_snap (h := h24) (g := s.heap) (ex := [L', it3, acc + 1, acc, it, DP, DL, L' + 1]) nd24 snap_mem
          have hk24 : ∀ b o, s.heap.get? b = some o → h24.get? b = some o := F24.keep
          refine next_range_led F24 N24' nd24' (by omega) ?_
          intro h25 tk25 t25 F25 N25 nd25
          unfold CompP
          refine wpAny_assign_Name (store_own (pre := [(it3, _)]) F25 N25 nd25 hC24 rfl ?_ rfl rfl)
          intro h26 oC26 F26 N26 nd26 hC26
          refine ifs_nil ?_
          rw [if_pos rfl]
          clear F25 N25 nd25 F24 N24 nd24 N24' nd24'
          walk_at "M.g10"
          refine name_own N26 (.tail _ (.head _)) hC26 (v := .int ((j : Int) + 1) t25) rfl ?_ rfl rfl rfl (by decide)
          walk_at "M.g10"
          refine newTuple_led F26 N26 nd26 (Nat.le_of_ble_eq_true rfl) ?_
          intro tup h27 F27 N27 nd27
          walk_at "M.g10"
          have hpal : av.length ≤ 5 := by
            rw [hpa24.length]; simp only [logRow, List.length_map, List.length_range]; omega
          refine append_led (pre := [(tup, _), (it3, _), (acc + 1, _)]) F27 N27 nd27 (by omega) ?_
          intro h28 F28 N28 nd28
          have hkp28 : ∀ b o, h24.get? b = some o → TupO o → h28.get? b = some o := fun b o q1 q2 => snap_back (own := [(tup, _), (it3, _), (acc + 1, _), (acc, _), (it, _), (DP, _), (DL, _), (L' + 1, _)]) hk24 F28 N28 q1 (hoff24 b o q1 q2)
          have ej2 : (j : Int) + 1 + 1 = ((j + 1 : Nat) : Int) + 1 := rfl
          have ell3 : (x.a : Int) + x.b - (j : Int) - 1 = (x.a : Int) + x.b - ((j + 1 : Nat) : Int) := Int.sub_sub _ _ _
          rw [ej2, ell3] at N28 nd28
          refine hPC (20 - (j + 1)) _ (dn20 hlj (Nat.le_trans (Nat.add_le_add hxa hxb) (by decide))) ⟨h28, _, j + 1, av ++ [.ref tup], n24 + 1, oC26, _, rfl, rfl, hlj, F28, news_subS N28 (by walk_at "M.sub"), nd_sub nd28 (by walk_at "M.sub"), hC26, hpl24.keepsT hkp28, ?_⟩
          rw [show logRow i (j + 1) = logRow i j ++ [((j : Int) + 1, -(i : Int))] by unfold logRow; rw [List.range_succ, List.map_append]; rfl]
          exact (hpa24.keepsT hkp28).append (.cons ⟨tup, _, _, _, rfl, (N28 _ (.head _)).1⟩ .nil)
        · have hje : j = x.a + x.b := ieq hjl hlj
          have hoff24 : ∀ b o, h24.get? b = some o → TupO o → b ∉ [L', it3, acc + 1, acc, it, DP, DL, L' + 1] := fun b o q1 q2 => tup_off2 F24 N24 (nt1 (nt_cls (show Value.type "range_iterator" ≠ Value.type "tuple" by decide)) (nt1 (nt_ns hC24) (nt1 (nt_cls (show Value.type "list" ≠ Value.type "tuple" by decide)) (nt1 (nt_cls (show Value.type "range_iterator" ≠ Value.type "tuple" by decide)) (nt1 (nt_cls (show Value.type "list" ≠ Value.type "tuple" by decide)) (nt1 (nt_cls (show Value.type "list" ≠ Value.type "tuple" by decide)) (nt1 (nt_cell hoK11) nt0))))))) q1 q2
          have N24' := news_snap N24 (L := L') (ex := [L', it3, acc + 1, acc, it, DP, DL, L' + 1]) (.head _)
          have nd24' := nd_snap (h := h24) (g := s.heap) (ex := [L', it3, acc + 1, acc, it, DP, DL, L' + 1]) nd24 snap_mem
          have hk24 : ∀ b o, s.heap.get? b = some o → h24.get? b = some o := F24.keep
          refine next_range_end rfl F24 N24' nd24' (by omega) ?_
          intro h25 F25 N25 nd25
          refine comp_end (pre := []) F25 N25 nd25 hC24 ?_
          intro h26 F26 N26 nd26
          refine hQC _ _ ?_
          clear F25 N25 nd25 F24 N24 nd24 N24' nd24'
          walk_at "M.g10"
          have hpal : av.length ≤ 5 := by
            rw [hpa24.length]; simp only [logRow, List.length_map, List.length_range]; omega
          refine iadd_led (pre := [(acc, _), (it, _), (DP, _)]) F26 N26 nd26 (N26 _ (.head _)).1 (by omega) ?_
          intro h27 n27 F27 N27 nd27
          walk_at "M.g10"
          (with_reducible rename Fr _ _ _ _ => F28)
          (with_reducible rename News _ _ _ _ => N28)
          have hkp28 : ∀ b o, h24.get? b = some o → TupO o → _ := fun b o q1 q2 => snap_back (own := [(acc, _), (it, _), (DP, _), (DL, _), (L' + 1, _)]) hk24 F28 N28 q1 (hoff24 b o q1 q2)
          refine hP1 .next _ ⟨20 - (i + 1), dn20 hlt (Nat.le_trans hlen (by decide)), _, _, _, i + 1, lv ++ av, pv ++ [.str y ty], pys ++ [y], tc18, n1 + 1, n27, oK11, _, rfl, rfl, hlt, F28, rfl, rfl, rfl, rfl, rfl, news_subS N28 (by walk_at "M.sub"), nd_sub nd27 (by walk_at "M.sub"), hoK11, strsAre_snoc hpy _ _, ?_, ?_⟩
          · rw [take_snoc hxs, List.map_append, List.map_append, hpm, List.map_singleton, List.map_singleton, hy]
          · rw [logAll_snoc hxs, ← hje]
            exact (hpl24.keepsT hkp28).append (hpa24.keepsT hkp28)
      case iter2 =>
        walk_at "M.g10"
        refine range2_led F15 N15 nd11 ?_
        intro r2 h16 tk16 t16 F16 N16 nd16
        walk_at "M.g10"
        refine iter_range_led F16 N16 nd16 (by omega) (by omega) (by omega) (by omega) ?_
        intro it2 h17 F17 N17 nd17
        refine ⟨fun k s' => Box (X7 fun (h1 : Heap) (tk : Nat) (m1 : Str → Option Value) (j : Nat) (y : Str) (ty tc : Tok) => A17 (s' = { s with heap := h1, toks := tk }) (k = 20 - j) (j + 1 ≤ cy.length) (Fr s.heap L' h1 m1) (m1 (Str.ofString "cells") = some (.ref DC)) (m1 (Str.ofString "sizes") = some (.ref S)) (m1 (Str.ofString "log") = some (.ref DL)) (m1 (Str.ofString "parted") = some (.ref DP)) (m1 (Str.ofString "commas") = some (.int (comT f c l (cells.take i) + cp f c l x.ds j) tc)) (m1 (Str.ofString "ahead") = some (.int x.a ct)) (m1 (Str.ofString "behind") = some (.int x.b ct')) (m1 (Str.ofString "text") = some (.str y ty)) (m1 (Str.ofString "figures") = some (.str cy cu)) (News s.heap L' h1 ((it2, riObj ((j : Int) + 1) (cy.length - ((j : Int) + 1)) 1) :: ([(it, riObj ((i + 1 : Nat) : Int) (cells.length - ((i + 1 : Nat) : Int)) 1), (DP, listOf pv.toArray n1), (DL, listOf lv.toArray n2), (L' + 1, oK11)] ++ R))) (Nd ((it2, riObj ((j : Int) + 1) (cy.length - ((j : Int) + 1)) 1) :: ([(it, riObj ((i + 1 : Nat) : Int) (cells.length - ((i + 1 : Nat) : Int)) 1), (DP, listOf pv.toArray n1), (DL, listOf lv.toArray n2), (L' + 1, oK11)] ++ R))) (y.cps.toList = tp f c l x.ds j) ((tp f c l x.ds j).length ≤ 2 * j + 1)), 20,
          ⟨h17, _, _, 0, _, _, _, rfl, rfl, by omega, F17, rfl, rfl, rfl, rfl, congrArg (fun z => some (Value.int z _)) (Int.add_zero _).symm, rfl, rfl, rfl, rfl, N17, nd17, tp_zero hxp, by rw [tp, List.length_take]; omega⟩, fun _ => rfl, ?_⟩
        clear F17 N17 nd17 F16 N16 nd16 F15 N15 nd11
        rintro k P2 hP2 s' ⟨h18, tk18, m18, j, y, ty, tc18, rfl, rfl, hj, F18, q1, q2, q3, q4, q5, q6, q7, q8, q9, N18, nd18, hy, hyl⟩
        by_cases hlj : j + 1 < cy.length
        · refine next_range_led F18 N18 nd18 (by omega) ?_
          intro h19 tk19 t19 F19 N19 nd19
          replace F19 := fr_bnd F19 [(Str.ofString "cells", .ref DC), (Str.ofString "sizes", .ref S), (Str.ofString "log", .ref DL), (Str.ofString "parted", .ref DP), (Str.ofString "commas", .int (comT f c l (cells.take i) + cp f c l x.ds j) tc18), (Str.ofString "ahead", .int x.a ct), (Str.ofString "behind", .int x.b ct'), (Str.ofString "text", .str y ty), (Str.ofString "figures", .str cy cu)] (bd q1 (bd q2 (bd q3 (bd q4 (bd q5 (bd q6 (bd q7 (bd q8 (bd q9 bd0)))))))))
          clear q1 q2 q3 q4 q5 q6 q7 q8 q9 F18 N18 nd18
          have ej : ((j + 1 : Nat) : Int) = (j : Int) + 1 := rfl
          have ell : (cy.length : Int) - ((j : Int) + 1) - 1 = (cy.length : Int) - (((j + 1 : Nat) : Int) + 1) := by omega
          have ell2 : (j : Int) + 1 + 1 = ((j + 1 : Nat) : Int) + 1 := rfl
          rw [ell, ell2] at N19 nd19
          unfold ForP
          walk_at "M.g10"
          (with_reducible rename Fr _ _ _ _ => F20)
          (with_reducible rename News _ _ _ _ => N20)
          refine lc_spec (dp := dp + 1) (un := un + 3) F20 X1 T1 (up hdp (by decide)) (up hun (by decide)) (F20.keep _ _ hS) hf hc hl (by omega) ?_
          intro h21 tk21 E21
          obtain ⟨F21, N21⟩ := back0 F20 N20 E21
          clear F20 N20 E21
          have hdj : x.ds[j + 1]? = some (x.ds.getD (j + 1) 0) := by rw [List.getD_eq_getElem?_getD, List.getElem?_eq_getElem (by omega)]; rfl
          have hcm : (Str.ofString ",").cps.toList = [44] := by decide
          walk_at "M.g10"
          · rename_i hcb
            refine iadd_gen hy hcm (by rw [List.length_singleton]; omega) ?_
            intro y22 tk22 t22 hy22
            walk_at "M.g10"
            (with_reducible rename Fr _ _ _ _ => F23)
            (with_reducible rename News _ _ _ _ => N23)
            refine item_strI (i := j + 1) ej.symm (c := x.ds.getD (j + 1) 0) (by rw [hcy]; exact hdj) (by omega) fun tk24 t24 => ?_
            walk_at "M.g10"
            refine iadd_gen hy22 (show (⟨#[x.ds.getD (j + 1) 0]⟩ : Str).cps.toList = [x.ds.getD (j + 1) 0] from rfl) (by rw [List.length_append, List.length_singleton, List.length_singleton]; omega) ?_
            intro y25 tk25 t25 hy25
            walk_at "M.g10"
            (with_reducible rename Fr _ _ _ _ => F26)
            (with_reducible rename News _ _ _ _ => N26)
            have hcb' : comB f c l ((x.ds.length : Int) - ((j : Int) + 1)) = true := by rw [← hcl1]; exact hcb
            have etp : tp f c l x.ds (j + 1) = tp f c l x.ds j ++ [44] ++ [x.ds.getD (j + 1) 0] := by rw [tp, if_pos hcb', List.append_assoc]
            have ecp : comT f c l (cells.take i) + cp f c l x.ds j + 1 = comT f c l (cells.take i) + cp f c l x.ds (j + 1) := by rw [cp, if_pos hcb', Int.add_assoc]
            exact hP2 .next _ ⟨20 - (j + 1), dn20 (Nat.lt_of_succ_lt hlj) (Nat.le_trans hcl2 (by decide)), _, _, _, j + 1, y25, t25, _, rfl, rfl, by omega, F26, rfl, rfl, rfl, rfl, congrArg (fun z => some (Value.int z _)) ecp, rfl, rfl, rfl, rfl, N26, nd19, by rw [hy25, etp], by rw [etp, List.length_append, List.length_append, List.length_singleton, List.length_singleton]; omega⟩
          · rename_i hcb
            refine item_strI (i := j + 1) ej.symm (c := x.ds.getD (j + 1) 0) (by rw [hcy]; exact hdj) (by omega) fun tk24 t24 => ?_
            walk_at "M.g10"
            refine iadd_gen hy (show (⟨#[x.ds.getD (j + 1) 0]⟩ : Str).cps.toList = [x.ds.getD (j + 1) 0] from rfl) (by rw [List.length_singleton]; omega) ?_
            intro y25 tk25 t25 hy25
            walk_at "M.g10"
            (with_reducible rename Fr _ _ _ _ => F26)
            (with_reducible rename News _ _ _ _ => N26)
            have hcb' : ¬ comB f c l ((x.ds.length : Int) - ((j : Int) + 1)) = true := by rw [← hcl1, hcb]; exact Bool.false_ne_true
            have etp : tp f c l x.ds (j + 1) = tp f c l x.ds j ++ [x.ds.getD (j + 1) 0] := by rw [tp, if_neg hcb', List.nil_append]
            have ecp : comT f c l (cells.take i) + cp f c l x.ds j = comT f c l (cells.take i) + cp f c l x.ds (j + 1) := by rw [cp, if_neg hcb', Int.add_zero]
            exact hP2 .next _ ⟨20 - (j + 1), dn20 (Nat.lt_of_succ_lt hlj) (Nat.le_trans hcl2 (by decide)), _, _, _, j + 1, y25, t25, _, rfl, rfl, by omega, F26, rfl, rfl, rfl, rfl, congrArg (fun z => some (Value.int z _)) ecp, rfl, rfl, rfl, rfl, N26, nd19, by rw [hy25, etp], by rw [etp, List.length_append, List.length_singleton]; omega⟩
        · have hje : j = x.ds.length - 1 := by omega
          refine next_range_end rfl F18 N18 nd18 (by omega) ?_
          intro h19 F19 N19 nd19
          rw [hje] at q5 hy
          exact hP2 .brk _ ⟨rfl, h19, _, _, y, ty, tc18, rfl, F19, q1, q2, q3, q4, by rw [comT_snoc hxs]; exact q5, q6, q7, q8, N19, hy⟩
    · refine next_range_end rfl F9 N9' nd9' (zneg hlt) ?_
      intro h10 F10 N10 nd10
      have hie : i = cells.length := ieq hi hlt
      rw [hie, List.take_length] at q5 hpm hback
      exact hP1 .brk _ ⟨rfl, h10, _, _, lv, pv, pys, tc, n1, n2, oK9, v09, rfl, F10, q1, q3, q4, q5, news_subS N10 (by walk_at "M.sub"), nd_sub nd10 (by walk_at "M.sub"), hoK9, hpy, hpm, hback [_, _, _] h10 _ F10 N10⟩
end Mine
end

/-! part LW -/
section
open PySem PySem.W PySem.Calls PyProof.Rows
set_option Elab.async false
set_option maxRecDepth 100000
set_option maxHeartbeats 8000000
namespace Mine
noncomputable def SeqO (o : Obj) : Prop := ∃ a n, o.data = .seq a n
theorem seq_off {g h : Heap} {L : Addr} {m : Str → Option Value} (F : Fr g L h m) {b : Addr} {o : Obj} (e : h.get? b = some o) (ho : SeqO o) : b ∉ [L] := by
  intro q
  rw [List.mem_singleton] at q
  obtain ⟨oL, es, ep, hL, hd, _⟩ := F.ns
  rw [q, hL] at e
  cases e
  obtain ⟨a, n, hd'⟩ := ho
  rw [hd] at hd'; cases hd'
theorem snapL {g h : Heap} {L : Addr} : News g L h ([] ++ others h g [L]) := news_snap News.nil (.head _)
theorem keepL {g h h' : Heap} {L : Addr} {m m' : Str → Option Value} (F : Fr g L h m) (F' : Fr g L h' m') (N' : News g L h' ([] ++ others h g [L])) : ∀ b o, h.get? b = some o → SeqO o → h'.get? b = some o :=
  fun b o e ho => snap_back (own := []) F.keep F' N' e (seq_off F e ho)
theorem seq_list {vs : Array Value} {n : Nat} : SeqO (listOf vs n) := ⟨_, _, rfl⟩
theorem seq_tup {o : Obj} (h : TupO o) : SeqO o := h.2


end Mine


open Mine
theorem PySem.Challenge.cw_oc0024_01_holds : PySem.Challenge.rw_oc0024_01.Holds := by
  refine hd ?_
  k_fill
  intro w s₀ s₁ mg mb G Y fa o pm cd doc dV kV ho hd hcd hD hmg hg args vals as hpre hlay hrd hwl hlo
  have KX := kIn_of Y
  have X := (Ground.X G).1
  have V := (Ground.X G).2
  refine Ground.open G ?_
  intro T B D TE TW
  try (refine guard_noD D (by decide +kernel) ?_; clear D)
  clear hmg
  wrow_args hpre hlay hrd hwl hlo
  all_goals (first | refine callC_kw (enter_call ?_) | refine enter_call ?_)
  all_goals (w_top on)
  w_call any ho hd hcd hD T F
  clear hd
  rename IntsAre _ _ => hI
  rename Heap.IsList _ _ _ => hL
  rename_i hlen1 hlen2 h1 N1
  rename List Int => ns
  refine wpAny_mono (E := fun _ _ => False) ?_ (fun _ _ h => h) (fun _ _ h => h.elim)
  dsimp only
  k_fold
  walk_at "M.g10"
  have hns : ∀ h', Ev [] h1 h' → Ev [] h1 h' := fun _ h => h
  refine le_spec F KX T (by decide) (by decide) (hL.at fun o e => F.keep _ o e) hI (by omega) ?_
  intro h2 tk2 DC cvs nC E2 hDC0 hDC hcs
  obtain ⟨F2, _⟩ := back0 F N1 E2
  have N2 := snapL (g := s₁.heap) (h := h2) (L := s₁.heap.objs.size)
  have hk2 : ∀ b o, s₁.heap.get? b = some o → h2.get? b = some o := F2.keep
  have off2 : ∀ b o, h2.get? b = some o → SeqO o → b ∉ [s₁.heap.objs.size] := fun b o e ho => seq_off F2 e ho
  clear F N1 E2
  walk_at "M.g10"
  (with_reducible rename Fr _ _ _ _ => F3)
  (with_reducible rename News _ _ _ _ => N3)
  have up3 : ∀ b o, h2.get? b = some o → SeqO o → _ := fun b o e ho => snap_back (own := []) hk2 F3 N3 e (off2 b o e ho)
  refine ls_spec F3 KX T (by decide) (by decide) (hL.at fun o e => F3.keep _ o e) hI (by omega) ?_
  intro h4 tk4 DS t0 t1 t2 f c l n4 E4 hDS0 hDS hf0 hc0 hl0
  obtain ⟨F4, _⟩ := back0 F3 News.nil E4
  have up4 : ∀ b o, h2.get? b = some o → SeqO o → h4.get? b = some o := fun b o e ho => E4 b o (up3 b o e ho) (by simp)
  have N4 := snapL (g := s₁.heap) (h := h4) (L := s₁.heap.objs.size)
  have hk4 : ∀ b o, s₁.heap.get? b = some o → h4.get? b = some o := F4.keep
  have off4 : ∀ b o, h4.get? b = some o → SeqO o → b ∉ [s₁.heap.objs.size] := fun b o e ho => seq_off F4 e ho
  clear F3 N3 E4 up3
  walk_at "M.g10"
  (with_reducible rename Fr _ _ _ _ => F5)
  (with_reducible rename News _ _ _ _ => N5)
  have up5 : ∀ b o, h4.get? b = some o → SeqO o → _ := fun b o e ho => snap_back (own := []) hk4 F5 N5 e (off4 b o e ho)
  have hup : ∀ b o, h2.get? b = some o → SeqO o → _ := fun b o e ho => up5 b o (up4 b o e ho) ho
  have hf : 1 ≤ f ∧ f ≤ 3 := by omega
  have hc : 1 ≤ c ∧ c ≤ 3 := by omega
  have hl : l = 0 ∨ l = 127 ∨ l = 2 := by
    rw [hl0]; split
    · exact .inl rfl
    · split
      · exact .inr (.inl rfl)
      · exact .inr (.inr rfl)
  have hok2 := cells_ok (srcOf ns)
  have hok : ∀ x ∈ cellsOf (srcOf ns), CellOk x := fun x hx => (hok2 x hx).1
  have hcl := cells_len ns
  refine lr_spec F5 KX T (by decide) (by decide) (hup _ _ hDC seq_list) (hcs.keeps fun b o q1 q2 => hup b o q1 (seq_tup q2)) (by omega) (by omega) hok (up5 _ _ hDS seq_list) hf hc hl (AllBare.of_eq hg) ?_
  intro h6 tk6 gens6 RT1 DL1 DT1 D31 lg1 tv1 wv1 tys1 wys1 n61 n62 n63 n64 E6 hb6 hR1 hL1 hT1 hW1 hp1 hs1 hm1 hs2 hm2
  obtain ⟨F6, _⟩ := back0 F5 News.nil E6
  have hC6 := E6 _ _ (hup _ _ hDC seq_list) (by simp)
  have hcs6 : CellsAt h6 cvs (cellsOf (srcOf ns)) := hcs.keeps fun b o q1 q2 => E6 b o (hup b o q1 (seq_tup q2)) (by simp)
  have hS6 := E6 _ _ (up5 _ _ hDS seq_list) (by simp)
  clear F5 N5 E6
  walk_at "M.g10"
  refine lt_spec F6 KX T (by decide) (by decide) hC6 hcs6 (by omega) (log_len ns) hok hS6 hf hc hl ?_
  intro h7 tk7 RT2 DL2 DT2 lg2 tv2 tys2 S n71 n72 n74 E7 hR2 hL2 hT2 hperm hsort hp2 hs3 hm3
  obtain ⟨F7, _⟩ := back0 F6 News.nil E7
  clear F6
  have hcom := comN_eq hf hc hl hok
  have hlog : runLog f c l (cellsOf (srcOf ns)) = S.reverse.take (comT f c l (cellsOf (srcOf ns))).toNat := by
    rw [runLog_eq (by omega) hperm hsort, hcom]
  rw [texts_eq _ hf hc hl hok, hlog] at hm1 hm2
  rw [hlog] at hp1
  have e1 : tys1 = tys2 := strs_ext (hm1.trans hm3.symm)
  have e2 : wys1 = tys2 := strs_ext (hm2.trans hm3.symm)
  subst e1
  subst e2
  walk_at "M.g10"
  refine eq_results (E7 _ _ hR1 (by simp)) hR2 (E7 _ _ hL1 (by simp)) (E7 _ _ hT1 (by simp)) (E7 _ _ hW1 (by simp)) hL2 hT2 hT2 (hp1.keeps fun b o q => E7 b o q (by simp)) hp2 hs1 hs3 hs2 hs3 (texts_ok (fun x hx => (hok2 x hx).2) hm3) (show (4 + 3 + 64 : Nat) < cLine by decide) ?_
  walk_at "M.g10"
  refine ⟨.inl ⟨.bool true, .bool true, [], rfl, fun _ => rfl, .bool true, ?_, fun _ => ⟨.nil, fun _ q => nomatch q⟩⟩, .of_keep F7.keep, rfl, hb6⟩
  first
  | wrow_post
  | kernel_rfl
  | (simp [RowW.claim, PySem.Challenge.rw_oc0024_01]; done)
end
