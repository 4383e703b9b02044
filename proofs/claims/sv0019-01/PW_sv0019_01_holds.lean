import PyProof.Rows.All
import Wide.All
import OpenK.AllK
import Wide.FinOn
import KE.KNestM
import PySem.Challenge.RW_sv0019_01
open PySem PySem.W PyProof.Rows
set_option Elab.async false
set_option maxRecDepth 100000
set_option maxHeartbeats 8000000
local macro_rules | `(tactic| o_head ($_:ident $k $a $e $ts)) => `(tactic| o_head ((kmHook $k $a $e (418 :: $ts))))
namespace Bf
open_top hd1 for PySem.Challenge.rw_sv0019_01
open PySem PySem.W PySem.Calls PyProof.Rows PySem.Spec PyProof.V
set_option linter.unusedVariables false
set_option rowWalk.seconds 0
set_option linter.unusedSimpArgs false
set_option linter.deprecated false
section

abbrev PR : Program := PySem.Challenge.rw_sv0019_01.row.prog

def Wd (w : World) (h : Heap) : Prop := (hd1.heap_39 w.params).In h ∧ ∃ (p : Program) (loose : List Str) (mean : ExcName → Option Value) (mg mb : Str → Option Value), Top p loose mean mg mb h
theorem Wd.keeps {w : World} {h h' : Heap} (x : Wd w h) (k : ∀ b o, h.get? b = some o → h'.get? b = some o) : Wd w h' :=
  ⟨x.1.keeps k, let ⟨p, l, m, g, b, t⟩ := x.2; ⟨p, l, m, g, b, t.keeps k⟩⟩

structure On (w : World) (h₀ h : Heap) : Prop where
  wd : Wd w h₀
  stays : ∀ b o, h₀.get? b = some o → h.get? b = some o

def Mod (W : List Addr) (h h' : Heap) : Prop := ∀ b o, b ∉ W → h.get? b = some o → h'.get? b = some o
def At (h₀ h : Heap) (a : Addr) (o : Obj) : Prop := h.get? a = some o ∧ h₀.get? a = none

structure Room (A : Around) (n : Nat) : Prop where
  hd : A.handled = none
  depth : A.depth + n < recursionLimit
  units : A.units + 10 * n < cLine

theorem Room.lt {A : Around} {n : Nat} (r : Room A n) : A.depth < recursionLimit := by have := r.depth; omega
theorem Room.down {A : Around} {n : Nat} (k : Nat) (r : Room A (n + k)) : Room A n := ⟨r.hd, by have := r.depth; omega, by have := r.units; omega⟩
theorem Room.deeper {A : Around} {n : Nat} {e : Env} (r : Room A (n + 1)) : Room (A.deeper e) n := ⟨r.hd, by have := r.depth; show A.depth + 1 + n < _; omega, by have := r.units; show A.units + 3 + _ < _; omega⟩

theorem Room.under {A : Around} {n : Nat} {C : Addr} {vals : List Value} {kw : List (Str × Value)} (r : Room A (n + 1)) : Room (A.under (.builtin "type.__call__" ⟨.ref C :: vals, kw⟩)) n :=
  ⟨r.hd, by have := r.depth; show A.depth + 1 + n < _; omega, by have := r.units; show A.units + (Code.builtin "type.__call__" ⟨.ref C :: vals, kw⟩).cUnits + _ < _; have e : (Code.builtin "type.__call__" ⟨.ref C :: vals, kw⟩).cUnits = 1 := rfl; omega⟩
theorem Room.in1 {A : Around} {n : Nat} (r : Room A (n + 1)) : Room A.in1 n := ⟨r.hd, by have := r.depth; show A.depth + n < _; omega, by have := r.units; show A.units + 1 + _ < _; omega⟩

def AllAt (h₀ h : Heap) (news : List (Addr × Obj)) : Prop := ∀ p ∈ news, h.get? p.1 = some p.2 ∧ h₀.get? p.1 = none

theorem enter {w : World} {A : Around} {R : Result → Shared → Prop} {s : Shared} {h₀ : Heap} {name qual : Str} {params : Arguments} {body : List Stmt} {scope : Scope} {dV kV doc pm cdv ct oc : Value} {an od : Option Addr} {osl : Array (Option Value)} {f : Addr} {args : Args} {binds : List (Str × Value)}
    (news : List (Addr × Obj))
    (O : On w h₀ s.heap) (N : AllAt h₀ s.heap news)
    (ho : (hd1.heap_39 w.params).lookup f = some ⟨oc, od, .func (fnOf name qual params body scope dV kV doc pm an cdv ct), osl⟩) (hcd : codeIn (hd1.heap_39 w.params) cdv qual = true) (hroom : A.depth < recursionLimit)
    (hbind : BindsTo s (fnOf name qual params body scope dV kV doc pm an cdv ct) args binds) (hloc : ∀ y ∈ binds, scope.names.lookup y.1 = some .local)
    (h : ∀ (g : Heap) (L' : Addr) (h₁ : Heap) (p : Program) (loose : List Str) (mean : ExcName → Option Value) (mg mb : Str → Option Value),
      (∀ b o, h₀.get? b = some o → g.get? b = some o) → (∀ b o, b ∉ news.map (·.1) → s.heap.get? b = some o → g.get? b = some o) → Fr g L' h₁ (fun y => binds.reverse.lookup y) → News g L' h₁ news → (hd1.heap_39 w.params).In g → Top p loose mean mg mb g →
      wpAny (model PR w) (A.deeper (envOf qual scope L' f cdv)) (execs body (envOf qual scope L' f cdv))
        (fun fl s' => R (.ok (.ret (match fl with | .ret v => v | _ => .none))) s')
        (fun _ _ => False)
        { s with heap := h₁, toks := s.toks + binds.length })
    (hco : scope.isCoroutine = false) (hgen : scope.isGenerator = false) (hk : scope.kind = .function)
    (hcell : ∀ x ∈ scope.names, x.2 ≠ .cell) : codeAny (model PR w) A (.call (.ref f) args) R s := by
  obtain ⟨⟨X₀, p, loose, mean, mg, mb, T⟩, st⟩ := O
  refine codeAny_call_def (fd := fnX name qual params body scope [] dV kV doc pm an cdv ct) (body := body) (binds := binds) hroom ((X₀.keeps st) _ _ ho) rfl (T.nolimit.keeps st) (codeRec_of (X₀.keeps st) hcd) rfl hbind hcell hloc (fun h₁ hns hk₁ => ?_) hco hgen hk
  have nm : ∀ b o, h₀.get? b = some o → b ∉ news.map (·.1) := fun b o e q => by
    obtain ⟨p, hp, rfl⟩ := List.mem_map.mp q
    rw [(N p hp).2] at e; cases e
  have st' : ∀ b o, h₀.get? b = some o → (hideAll s.heap (news.map (·.1))).get? b = some o := fun b o e => hideAll_get _ (st b o e) (nm b o e)
  refine wpAny_mono (h (hideAll s.heap (news.map (·.1))) s.heap.objs.size h₁ p loose mean mg mb st' (fun b o hb e => hideAll_get _ e hb) ⟨hns, fun b o e => hk₁ b o (of_hideAll _ e), Nat.le_of_eq (hideAll_size _ _)⟩
    (fun p hp => ⟨hk₁ _ _ (N p hp).1, Nat.ne_of_lt (Heap.lt_size (N p hp).1), hideAll_none _ (List.mem_map_of_mem hp)⟩) (X₀.keeps (fun b o e => st' b o e)) (T.keeps (fun b o e => st' b o e))) (fun _ _ x => x) (fun _ _ x => x.elim)


end
section

def Bits (bs : List Int) (n : Nat) (p : Nat → Bool) : Prop := bs.length = n ∧ ∀ j, j < n → ∃ v : Nat, bs[j]? = some (v : Int) ∧ v < 256 ∧ ∀ r, r < 8 → v.testBit r = p (8 * j + r)

theorem bits_zero (n : Nat) : Bits (List.replicate n 0) n (fun _ => false) :=
  ⟨List.length_replicate, fun j hj => ⟨0, by rw [List.getElem?_replicate, if_pos hj]; rfl, by decide, fun r _ => by simp⟩⟩

theorem bitAnd_nat (v q : Nat) : Builtin.bitAnd (v : Int) (q : Int) = ((v &&& q : Nat) : Int) := by
  unfold Builtin.bitAnd
  have h1 : decide ((0 : Int) ≤ (v : Int)) = true := decide_eq_true (by omega)
  have h2 : decide ((0 : Int) ≤ (q : Int)) = true := decide_eq_true (by omega)
  rw [h1, h2]
  simp

theorem bitNot_nat (v : Nat) : Builtin.bitNot (v : Int) = -(v : Int) - 1 := by
  unfold Builtin.bitNot
  first | rfl | omega

theorem bitOr_nat (v q : Nat) : Builtin.bitOr (v : Int) (q : Int) = ((v ||| q : Nat) : Int) := by
  unfold Builtin.bitOr
  have e1 : ∀ x : Nat, decide ((0 : Int) ≤ Builtin.bitNot (x : Int)) = false := fun x => decide_eq_false (by rw [bitNot_nat]; omega)
  have e2 : ∀ x : Nat, Builtin.bitNot (Builtin.bitNot (x : Int)) = (x : Int) := fun x => by
    unfold Builtin.bitNot; omega
  unfold Builtin.bitAnd
  rw [e1, e1]
  dsimp only
  rw [e2, e2, e2]
  simp

theorem two_pow_int (r : Nat) : (1 : Int) * 2 ^ r = ((2 ^ r : Nat) : Int) := by
  rw [Int.one_mul]
  exact (Int.natCast_pow 2 r).symm

theorem and_two_pow_eq (v r : Nat) : v &&& 2 ^ r = if v.testBit r then 2 ^ r else 0 := by
  apply Nat.eq_of_testBit_eq
  intro i
  rw [Nat.testBit_and, Nat.testBit_two_pow]
  by_cases h : r = i
  · subst h
    cases v.testBit r <;> simp [Nat.testBit_two_pow_self]
  · cases v.testBit r <;> simp [h, Nat.testBit_two_pow]

theorem bits_test {bs : List Int} {n : Nat} {p : Nat → Bool} {k : Nat} (h : Bits bs n p) (hk : k < 8 * n) :
    decide (Builtin.bitAnd (bs.getD (k / 8) 0) ((2 ^ (k % 8) : Nat) : Int) = 0) = !p k := by
  obtain ⟨v, hv, _, hb⟩ := h.2 (k / 8) (by omega)
  have e : bs.getD (k / 8) 0 = (v : Int) := by rw [List.getD_eq_getElem?_getD, hv]; rfl
  have hp := hb (k % 8) (by omega)
  rw [show 8 * (k / 8) + k % 8 = k from by omega] at hp
  rw [e, bitAnd_nat, and_two_pow_eq, hp]
  cases p k with
  | true =>
    have : 0 < 2 ^ (k % 8) := Nat.pow_pos (by decide)
    simp only [if_true, Bool.not_true, decide_eq_false_iff_not]
    omega
  | false => simp

theorem bits_set {bs : List Int} {n : Nat} {p : Nat → Bool} {k : Nat} (h : Bits bs n p) (hk : k < 8 * n) :
    Bits (bs.set (k / 8) (Builtin.bitOr (bs.getD (k / 8) 0) ((2 ^ (k % 8) : Nat) : Int))) n (fun q => decide (q = k) || p q) := by
  obtain ⟨v, hv, hlt, hb⟩ := h.2 (k / 8) (by omega)
  have e : bs.getD (k / 8) 0 = (v : Int) := by rw [List.getD_eq_getElem?_getD, hv]; rfl
  rw [e, bitOr_nat]
  refine ⟨by rw [List.length_set]; exact h.1, fun j hj => ?_⟩
  by_cases q : k / 8 = j
  · subst q
    refine ⟨v ||| 2 ^ (k % 8), ?_, ?_, fun r hr => ?_⟩
    · rw [List.getElem?_set_self]
      rw [h.1]; omega
    · have h2 : 2 ^ (k % 8) < 2 ^ 8 := Nat.pow_lt_pow_right (by decide) (by omega)
      exact Nat.or_lt_two_pow (n := 8) hlt h2
    · rw [Nat.testBit_or, hb r hr, Nat.testBit_two_pow]
      by_cases hr' : k % 8 = r
      · have : 8 * (k / 8) + r = k := by omega
        simp [hr', this]
      · have : ¬ (8 * (k / 8) + r = k) := by omega
        simp [hr', this]
  · obtain ⟨v', hv', hlt', hb'⟩ := h.2 j hj
    refine ⟨v', by rw [List.getElem?_set_ne q]; exact hv', hlt', fun r hr => ?_⟩
    have : ¬ (8 * j + r = k) := by omega
    rw [hb' r hr]
    simp [this]

theorem Bits.congr {bs : List Int} {n : Nat} {p q : Nat → Bool} (h : Bits bs n p) (e : ∀ i, i < 8 * n → p i = q i) : Bits bs n q :=
  ⟨h.1, fun j hj => let ⟨v, a, b, c⟩ := h.2 j hj; ⟨v, a, b, fun r hr => (c r hr).trans (e _ (by omega))⟩⟩


end
section

abbrev listO (vs : List Value) (n : Nat) : Obj := { cls := .type "list", data := .seq vs.toArray n }
abbrev tupO (vs : List Value) : Obj := { cls := .type "tuple", data := .seq vs.toArray }
abbrev bloomO (dx l : Addr) (hf : Value) (blen cnt est bits nh : Int) (t1 t2 t3 t4 t5 t6 t7 t8 : Tok) : Obj :=
  ⟨.ref 325, some dx, .plain, #[none, some (.ref l), some (.int blen t1), some (.int cnt t2), some (.int est t3), some (.int bits t4), some hf, some (.int bits t5), some (.int nh t6), some (.bool false), some (.str (Str.ofString "regular") t7), some (.str (Str.ofString "B") t8)]⟩

structure BD where
  (bits est nh nb : Nat)
  hf : Value
structure BD.Ok (D : BD) : Prop where
  bits : 0 < D.bits
  bnb : D.bits ≤ 8 * D.nb
  nb : D.nb < 1000
  nh : D.nh < 1000
  est : 0 < D.est
  est2 : D.est < 1000
  more : D.nb = (D.bits + 7) / 8 ∧ D.bits < 1000 ∧ 0 < D.nh ∧ (∃ f, D.hf = .ref f) ∧ ((13862943611198906 * (D.bits : Int)).fdiv D.est + 10 ^ Int.toNat 16).fdiv (2 * 10 ^ Int.toNat 16) = (D.nh : Int)

def IsInts (h₀ h : Heap) (a : Addr) (hs : List Int) : Prop := ∃ vs n, At h₀ h a (listO vs n) ∧ IntsAre vs hs
def IsBloom (D : BD) (h₀ h : Heap) (x dx l : Addr) (cnt : Nat) (p : Nat → Bool) : Prop :=
  ∃ (t1 t2 t3 t4 t5 t6 t7 t8 : Tok) (bsv : List Value) (bs : List Int) (nn : Nat),
    At h₀ h x (bloomO dx l D.hf D.nb cnt D.est D.bits D.nh t1 t2 t3 t4 t5 t6 t7 t8) ∧ At h₀ h dx (dictOf [] 0) ∧ At h₀ h l (listO bsv nn) ∧ IntsAre bsv bs ∧ Bits bs D.nb p

def Kind (o : Obj) : Nat := match o.cls, o.data with
  | .ref a, _ => a
  | _, .seq .. => 1
  | _, .dict .. => 2
  | _, .cell .. => 3
  | _, .func .. => 4
  | _, _ => 0
theorem At.clash {h₀ h : Heap} {a : Addr} {o o' : Obj} (x : At h₀ h a o) (y : At h₀ h a o') (e : (Kind o == Kind o') = false := by rfl) : False := by
  have := x.1
  rw [y.1] at this
  cases this
  simp at e
theorem any_take_succ {hs : List Int} {i : Nat} {f : Int → Bool} (hi : i < hs.length) : (hs.take (i + 1)).any f = ((hs.take i).any f || f (hs.getD i 0)) := by
  rw [List.take_add_one, List.any_append, List.getD_eq_getElem?_getD, List.getElem?_eq_getElem hi]
  simp
theorem intsAre_set {vs : List Value} {ns : List Int} (h : IntsAre vs ns) (k : Nat) (n : Int) (t : Tok) : IntsAre (vs.set k (.int n t)) (ns.set k n) := by
  induction h generalizing k with
  | nil => exact .nil
  | cons m u h ih =>
    cases k with
    | zero => exact .cons n t h
    | succ k => exact .cons m u (ih k)
theorem At.mod {h₀ h h' : Heap} {W : List Addr} {a : Addr} {o : Obj} (x : At h₀ h a o) (m : Mod W h h') (n : a ∉ W) : At h₀ h' a o := ⟨m a o n x.1, x.2⟩
theorem IsInts.mod {h₀ h h' : Heap} {W : List Addr} {a : Addr} {hs : List Int} (x : IsInts h₀ h a hs) (m : Mod W h h') (n : a ∉ W) : IsInts h₀ h' a hs :=
  let ⟨vs, k, p, q⟩ := x; ⟨vs, k, p.mod m n, q⟩
theorem IsBloom.mod {D : BD} {h₀ h h' : Heap} {W : List Addr} {x dx l : Addr} {cnt : Nat} {p : Nat → Bool} (b : IsBloom D h₀ h x dx l cnt p) (m : Mod W h h') (n1 : x ∉ W) (n2 : dx ∉ W) (n3 : l ∉ W) : IsBloom D h₀ h' x dx l cnt p :=
  let ⟨t1, t2, t3, t4, t5, t6, t7, t8, bsv, bs, nn, a1, a2, a3, a4, a5⟩ := b
  ⟨t1, t2, t3, t4, t5, t6, t7, t8, bsv, bs, nn, a1.mod m n1, a2.mod m n2, a3.mod m n3, a4, a5⟩
theorem At.ofNews {g h h₀ : Heap} {L a : Addr} {o : Obj} {news : List (Addr × Obj)} (hg : ∀ b o, h₀.get? b = some o → g.get? b = some o) (N : News g L h news) (m : (a, o) ∈ news) : At h₀ h a o := by
  refine ⟨(N _ m).1, ?_⟩
  cases q : h₀.get? a with
  | none => rfl
  | some o' => have := hg _ _ q; rw [(N _ m).2.2] at this; cases this
theorem new_of {g h s₀ : Heap} {L a : Addr} {o : Obj} {news₀ news : List (Addr × Obj)} (hg : ∀ b o, b ∉ news₀.map (·.1) → s₀.get? b = some o → g.get? b = some o) (N : News g L h news) (m : (a, o) ∈ news) (n : a ∉ news₀.map (·.1)) : s₀.get? a = none := by
  cases q : s₀.get? a with
  | none => rfl
  | some o' => have := hg _ _ n q; rw [(N _ m).2.2] at this; cases this
theorem Mod.refl (W : List Addr) (h : Heap) : Mod W h h := fun _ _ _ e => e
theorem Mod.trans {W : List Addr} {h h' h'' : Heap} (a : Mod W h h') (b : Mod W h' h'') : Mod W h h'' := fun c o n e => b c o n (a c o n e)
theorem Mod.mono {W W' : List Addr} {h h' : Heap} (a : Mod W h h') (s : ∀ b ∈ W, b ∈ W') : Mod W' h h' := fun c o n e => a c o (fun q => n (s c q)) e
theorem On.mod {w : World} {h₀ h h' : Heap} {W : List Addr} (O : On w h₀ h) (m : Mod W h h') (n : ∀ a ∈ W, h₀.get? a = none) : On w h₀ h' :=
  ⟨O.wd, fun b o e => m b o (fun q => by rw [n b q] at e; cases e) (O.stays b o e)⟩
theorem news_mod1 {g h h' : Heap} {L : Addr} {news : List (Addr × Obj)} {W : List Addr} {a : Addr} {o : Obj} (N : News g L h news) (m : (a, o) ∈ news) (x : Mod W h h') (n : a ∉ W) : h'.get? a = some o ∧ a ≠ L ∧ g.get? a = none :=
  ⟨x a o n (N _ m).1, (N _ m).2⟩
theorem fr_mod {g h h' : Heap} {L : Addr} {m : Str → Option Value} {W : List Addr} (F : Fr g L h m) (x : Mod W h h') (n : L ∉ W) (n' : ∀ a ∈ W, g.get? a = none) : Fr g L h' m :=
  ⟨F.ns.at' fun o e => x L o n e, fun b o e => x b o (fun q => by rw [n' b q] at e; cases e) (F.keep b o e), F.above⟩
theorem On.fr {w : World} {h₀ h g h' : Heap} {L : Addr} {m : Str → Option Value} (O : On w h₀ h) (hg : ∀ b o, h₀.get? b = some o → g.get? b = some o) (F : Fr g L h' m) : On w h₀ h' := ⟨O.wd, fun b o e => F.keep b o (hg b o e)⟩
theorem news_mod {g h h' : Heap} {L : Addr} {news : List (Addr × Obj)} {W : List Addr} (N : News g L h news) (M : Mod W h h') (hW : ∀ p ∈ news, p.1 ∉ W) : News g L h' news := fun p hp => ⟨M _ _ (hW p hp) (N p hp).1, (N p hp).2⟩
theorem news_mod0 {g h h' : Heap} {L : Addr} {news : List (Addr × Obj)} (N : News g L h news) (M : Mod [] h h') : News g L h' news := news_mod N M fun _ _ => by simp
theorem fr_mod0 {g h h' : Heap} {L : Addr} {m : Str → Option Value} (F : Fr g L h m) (x : Mod [] h h') : Fr g L h' m := fr_mod F x (by simp) (fun _ ha => nomatch ha)
theorem news_add {g h : Heap} {L a : Addr} {o : Obj} {news : List (Addr × Obj)} (N : News g L h news) (a1 : h.get? a = some o) (a2 : a ≠ L ∧ g.get? a = none) : News g L h ((a, o) :: news) := fun p hp => by
  rcases List.mem_cons.mp hp with rfl | hp
  · exact ⟨a1, a2⟩
  · exact N p hp
theorem fr_new {g h : Heap} {L r : Addr} {m : Str → Option Value} (F : Fr g L h m) (hn : h.get? r = none) : r ≠ L ∧ g.get? r = none := by
  refine ⟨fun e => ?_, ?_⟩
  · obtain ⟨o, _, _, ho, _⟩ := F.ns
    rw [← e, hn] at ho; cases ho
  · cases q : g.get? r with
    | none => rfl
    | some o => rw [F.keep _ _ q] at hn; cases hn
theorem ne_new {h : Heap} {a r : Addr} {o : Obj} (ha : h.get? a = some o) (hr : h.get? r = none) : a ≠ r := fun e => by rw [e, hr] at ha; cases ha
theorem mod_of {g h s₀ h₀ : Heap} {L : Addr} {m : Str → Option Value} {news₀ news : List (Addr × Obj)} (W : List Addr)
    (hg : ∀ b o, b ∉ news₀.map (·.1) → s₀.get? b = some o → g.get? b = some o) (F : Fr g L h m) (N : News g L h news) (Al : AllAt h₀ s₀ news₀)
    (same : ∀ p ∈ news₀, p.1 ∉ W → p ∈ news) : Mod W s₀ h := by
  intro b o hb e
  by_cases q : b ∈ news₀.map (·.1)
  · obtain ⟨p, hp, rfl⟩ := List.mem_map.mp q
    have h1 := (Al p hp).1
    rw [e] at h1
    cases h1
    exact (N p (same p hp hb)).1
  · exact F.keep b o (hg b o q e)
theorem bf_ite {c : Prop} [Decidable c] {a b : Prop} (h1 : c → a) (h2 : ¬ c → b) : if c then a else b := by
  by_cases h : c
  · rw [if_pos h]; exact h1 h
  · rw [if_neg h]; exact h2 h
theorem one_map {m' m₀ : Str → Option Value} {a : Str} (h : ∀ y, y ≠ a → m' y = m₀ y) : ∃ u, m' = fun y => if y = a then u else m₀ y := by
  refine ⟨m' a, funext fun y => ?_⟩
  by_cases h1 : y = a
  · subst h1; simp
  · rw [if_neg h1]; exact h y h1
theorem two_map {m' m₀ : Str → Option Value} {a b : Str} (h : ∀ y, y ≠ a → y ≠ b → m' y = m₀ y) : ∃ u v, m' = fun y => if y = a then u else if y = b then v else m₀ y := by
  refine ⟨m' a, m' b, funext fun y => ?_⟩
  by_cases h1 : y = a
  · subst h1; simp
  · rw [if_neg h1]
    by_cases h2 : y = b
    · subst h2; simp
    · rw [if_neg h2]; exact h y h1 h2
theorem three_map {m' m₀ : Str → Option Value} {a b c : Str} (h : ∀ y, y ≠ a → y ≠ b → y ≠ c → m' y = m₀ y) : ∃ u v x, m' = fun y => if y = a then u else if y = b then v else if y = c then x else m₀ y := by
  refine ⟨m' a, m' b, m' c, funext fun y => ?_⟩
  by_cases h1 : y = a
  · subst h1; simp
  · rw [if_neg h1]
    by_cases h2 : y = b
    · subst h2; simp
    · rw [if_neg h2]
      by_cases h3 : y = c
      · subst h3; simp
      · rw [if_neg h3]; exact h y h1 h2 h3
theorem Mod.stays {h h' : Heap} (x : Mod [] h h') : h.StaysIn h' := fun b o e => x b o (by simp) e
theorem all_take_succ {hs : List Int} {i : Nat} {f : Int → Bool} (hi : i < hs.length) (h : (hs.take i).all f = true) : (hs.take (i + 1)).all f = f (hs.getD i 0) := by
  rw [List.take_add_one, List.all_append, h, List.getD_eq_getElem?_getD, List.getElem?_eq_getElem hi]
  simp

section
variable {prog : Program} {w : World} {A : Around} {E : Value → Shared → Prop} {s : Shared} {env : Env} {h₀ : Heap} {x : Str} {body : List Stmt} {Q : Flow → Shared → Prop}

theorem iter_rangeJ {r : Addr} {b₀ : Int} {t₀ u₀ v₀ : Tok} {n : Nat} {m₀ : Str → Option Value} {news : List (Addr × Obj)} (J : Nat → (Str → Option Value) → List (Addr × Obj) → Prop)
    (hh : A.handled = none) (hr : IsRange s.heap r 0 b₀ 1 t₀ u₀ v₀) (hn : b₀ = (n : Int)) (hsm : n < 2 ^ 40) (F : Fr h₀ env.locals s.heap m₀) (N : News h₀ env.locals s.heap news) (hJ : J 0 m₀ news)
    (turn : ∀ (i : Nat) t m₁ nx h tk own, i < n → OwnOff own (news.map (·.1)) → nx.map (·.1) = news.map (·.1) → J i m₁ nx → Fr h₀ env.locals h (fun y => if y = x then some (.int (i : Int) t) else m₁ y) → News h₀ env.locals h (nx ++ own) →
      wpAny (model prog w) A (execs body env) (InvPostN h₀ env.locals (J (i + 1)) own (news.map (·.1)) { s with heap := h, toks := tk } Q) E { s with heap := h, toks := tk })
    (done : ∀ m₁ nx h tk, J n m₁ nx → Fr h₀ env.locals h m₁ → News h₀ env.locals h nx → Q .next { s with heap := h, toks := tk }) :
    wpAny (model prog w) A (pyIter (.ref r)) (fun it s₂ => LoopAtV prog w A h₀ env x body Q E it s₂) E s := by
  subst hn
  have hsmall : Builtin.Range.small 0 (n : Int) 1 = true := by
    exact small_one (by omega) (by omega) (by omega) (by omega)
  have hsz : Builtin.Range.rangeSize 0 (n : Int) 1 = (n : Int) := by
    have := rangeSize_nat 0 n
    simpa using this
  refine wpAny_pyIter_range hr hsmall ?_
  have W : Walks prog w A s.heap.objs.size [s.heap.objs.size] [s.heap.objs.size] n (fun i v => i < n ∧ ∃ t, v = .int (0 + i * 1) t)
      (fun i h => IsRangeIter h s.heap.objs.size (0 + (i : Nat) * 1) ((n : Int) - (i : Nat)) 1) := (Walks.range hh _ 0 1 n).bound
  refine loop_invN J W ?_ ?_ ?_ ?_ (by show IsRangeIter _ _ _ _ _; rw [hsz]; simpa using Heap.get?_push_size _ rfl) (F.push _) (fun p hp => ⟨Heap.get?_push_of_some _ (N p hp).1, (N p hp).2⟩) hJ ?_ ?_
  · intro hm
    exact absurd F.ns.lt ((List.mem_singleton.mp hm) ▸ Nat.lt_irrefl _)
  · intro b hb
    rw [List.mem_singleton.mp hb]
    exact next_is_new F
  · intro p hp hI
    exact absurd (Heap.lt_size (N p hp).1) ((List.mem_singleton.mp hI) ▸ Nat.lt_irrefl _)
  · intro p hp hI
    exact absurd (Heap.lt_size (N p hp).1) ((List.mem_singleton.mp hI) ▸ Nat.lt_irrefl _)
  · rintro i v m₁ nx h tk own hi ⟨_, t, rfl⟩ had hoff hJ' F₁ N₁
    have e1 : (0 : Int) + (i : Int) * 1 = (i : Int) := by omega
    rw [e1] at F₁
    exact turn i t m₁ nx h tk own hi hoff had hJ' F₁ N₁
  · exact done

theorem item_ints {value slice : PySem.Expr} {l : Addr} {vs : List Value} {ns : List Int} {k : Int} {u : Tok} {Q : Value → Shared → Prop}
    (hl : s.heap.IsList l vs.toArray) (hi : IntsAre vs ns) (h0 : 0 ≤ k) (h1 : k < (ns.length : Int)) (hhi : k < 2 ^ 63) (h : ∀ t, Q (.int (ns.getD k.toNat 0) t) s)
    (hs : subscripted slice false (.ref l) (.int k u) = operate [.ref l, .int k u] (getItem (.ref l) (.int k u)) := by with_unfolding_all rfl) :
    wpAny (model prog w) A (subscriptTail value slice (.ref l) (.int k u)) Q E s := by
  have hlt : k.toNat < ns.length := by omega
  obtain ⟨t, ht⟩ := hi.get k.toNat (ns[k.toNat]) (List.getElem?_eq_getElem hlt)
  have e : ns.getD k.toNat 0 = ns[k.toNat] := by rw [List.getD_eq_getElem?_getD, List.getElem?_eq_getElem hlt]; rfl
  have h' := h t
  rw [e] at h'
  exact tail_any hl.typeIs slot_list_getitem.lookup (wpAny_getItem_list hl h0 hhi (by simpa using ht) h') hs

section
variable {a : Int} {t u : Tok} {Q : Value → Shared → Prop}
theorem mod_any {n : Nat} (hn : 0 < n) (h : ∀ r : Nat, r < n → (a.fmod n).toNat = r → Q (.int (r : Int) s.toks) { s with toks := s.toks + 1 }) : wpAny (model prog w) A (binaryOp .Mod (.int a t) (.int (n : Int) u)) Q E s := by
  have h0 : (0 : Int) < (n : Int) := by omega
  have e1 := Int.fmod_nonneg_of_pos a h0
  have e2 := Int.fmod_lt_of_pos a h0
  refine mod_int' (by omega) ?_
  have := h (a.fmod n).toNat (by omega) rfl
  rwa [Int.toNat_of_nonneg e1] at this
theorem mod8_nat {r : Nat} (h : Q (.int ((r % 8 : Nat) : Int) s.toks) { s with toks := s.toks + 1 }) : wpAny (model prog w) A (binaryOp .Mod (.int (r : Int) t) (.int 8 u)) Q E s := by
  refine mod_int' (by omega) ?_
  rwa [Int.fmod_eq_emod_of_nonneg _ (by omega), show ((r : Int) % 8) = ((r % 8 : Nat) : Int) from by omega]
theorem div8_nat {r : Nat} (hr : r < 2 ^ 60) (h : Q (.int ((r / 8 : Nat) : Int) s.toks) { s with toks := s.toks + 1 }) : wpAny (model prog w) A (binaryOp .FloorDiv (.int (r : Int) t) (.int 8 u)) Q E s := by
  refine floordiv_int (by omega) ?_ (Or.inl (PyProof.noPylong_small (by omega)))
  rwa [Int.fdiv_eq_ediv_of_nonneg _ (by omega), show ((r : Int) / 8) = ((r / 8 : Nat) : Int) from by omega]
theorem shl1_nat {r : Nat} (hr : r < 1000) (h : Q (.int ((2 ^ r : Nat) : Int) s.toks) { s with toks := s.toks + 1 }) : wpAny (model prog w) A (binaryOp .LShift (.int 1 t) (.int (r : Int) u)) Q E s := by
  refine lshift_int_small (by omega) (by omega) (by decide) ?_
  rwa [two_pow_int, Int.toNat_natCast]
end
end

section
variable {prog : Program} {w : World} {A : Around} {E : Value → Shared → Prop} {s : Shared} {K : Frag} {x C p L : Addr} {ox od : Obj} {name : Str} {h₀ : Heap} {m : Str → Option Value} {news : List (Addr × Obj)} {es : List DictEntry} {n : Nat} {pl : Sem Bool}
theorem findObj_slot {f : Addr} {g : Value} {o : Option Obj} (hc0 : isClsIn K C = true) (hh : hasDictIn K C = false) (ha : findIn K (.ref C) name = some (some (.ref f))) (hg : specialIn K (.ref f) "__get__" = some (some g)) (ht : takesIn K (.ref f) = some false) (hc : copiedNames.contains name = false) :
    findObj K C o name = some (.bind g (.ref f)) := by
  obtain ⟨cd, hc'⟩ := Option.isSome_iff_exists.mp hc0
  have hd : cd.hasDict = false := by
    unfold hasDictIn at hh
    rw [hc'] at hh
    exact hh
  unfold findObj
  have ho : PySem.W.ownOf cd o name = some none := by unfold PySem.W.ownOf; rw [hd]; rfl
  rw [hc', Option.bind_some, ha, Option.bind_some]
  simp only [hg, ht, Option.bind_some, ho, hc, Bool.false_and, Bool.false_eq_true, if_false]

theorem cm_slot {fv : Value} {rest : List Value} {Q : Value × List Value → Shared → Prop} {o : Option Obj} (F : Fr h₀ L s.heap m) (X₀ : K.In h₀) (N : News h₀ L s.heap news) (I : InstAt s.heap x ox C o) (hg : plainGet K C name = true) (hc0 : isClsIn K C = true) (hh : hasDictIn K C = false) (ha : findIn K (.ref C) name = some (some (.ref p))) (ht : typeIn K (.ref p) = some (.type "classmethod"))
    (hgf : specialIn K (.ref p) "__get__" = some (some (.builtin "classmethod.__get__"))) (hts : takesIn K (.ref p) = some false) (hc : copiedNames.contains name = false) (hp : recIn K p "classmethod" = some (fv :: rest))
    (h : ∀ q h', Fr h₀ L h' m → News h₀ L h' ((q, methodObj fv (.ref C)) :: news) → (∀ r ∈ news, r.1 < q) → Q (.ref q, []) { s with heap := h', toks := s.toks + 1 }) : wpAny (model prog w) A (getMethod (.ref x) name pl) Q E s :=
  method_usual (r := some (.ref p)) (X₀.keeps F.keep) I (plainGet_of hg).1 (plainGet_of hg).2 ha (by simp only [Option.all_some, ht, Option.any_some]; decide +kernel)
    (get_bind (X₀.keeps F.keep) I (plainGet_of hg).1 (findObj_slot hc0 hh ha hgf hts hc) (plainGet_of hg).2
      (wpAny_call (cm_get (s := { s with toks := s.toks + 1 }) (X₀.keeps F.keep) hp (handed_on rfl (h s.heap.objs.size _ (F.push _) (N.push F _) fun r hr => Heap.lt_size (N r hr).1)))))

theorem prop_slot {expr : Bool} {Q : Value → Shared → Prop} {fget : Addr} {rest : List Value} {o : Obj} (X : K.In s.heap) (I : InstAt s.heap x ox C (some o)) (hg : plainGet K C name = true) (hc0 : isClsIn K C = true)
    (ha : findIn K (.ref C) name = some (some (.ref p))) (hn : specialIn K (.ref p) "__get__" = some (some (.builtin "property.__get__"))) (ht : takesIn K (.ref p) = some true) (hp : recIn K p "property" = some (.ref fget :: rest))
    (h : codeAny (model prog w) A.in1 (.call (.ref fget) ⟨[.ref x], []⟩) (fun r s' => match r with | .ok (.ret v) => handedIn v = true ∧ Q v s' | .ok _ => False | .error _ => False) { s with toks := s.toks + 1 }) :
    wpAny (model prog w) A (getAttr (.ref x) name expr) Q E s :=
  get_bind X I (plainGet_of hg).1 (findObj_data hc0 ha hn ht) (plainGet_of hg).2 (wpAny_call (prop_get (s := { s with toks := s.toks + 1 }) X hp (codeAny_mono h fun r s' z => by
    rcases r with e | (_ | _ | _ | v)
    · exact z.elim
    · exact z
    · exact z
    · exact z
    · show wpAny _ _ (handedOut v) _ _ _
      rw [handedOut_of z.1]
      exact wpAny_pure z.2)))
end

theorem make_raw {prog : Program} {w : World} {A : Around} {s : Shared} {K : Frag} {C : Addr} {R : Result → Shared → Prop} {rest : List Value} {kw : List (Str × Value)} {fI : Addr} (X : K.In s.heap) (hm : makesIn K C = true)
    (hi : findIn K (.ref C) "__init__" = some (some (.ref fI))) (hf : isFn K (.ref fI) = true)
    (h : ∀ x dx h', Mod [] s.heap h' → h'.get? x = some (instObj C dx) → h'.get? dx = some (dictOf [] 0) → s.heap.get? x = none → s.heap.get? dx = none →
      codeAny (model prog w) (A.under (.builtin "type.__call__" ⟨.ref C :: rest, kw⟩)) (.call (.ref fI) ⟨.ref x :: rest, kw⟩) (InitBack x R) { s with heap := h' }) :
    codeAny (model prog w) A (.call (.ref C) ⟨rest, kw⟩) R s := by
  obtain ⟨hh, g, d, t, os⟩ := s
  have nn : ∀ a, hh.objs.size ≤ a → hh.get? a = none := fun a ha => by
    cases q : hh.get? a with
    | none => rfl
    | some o => exact absurd (Heap.lt_size q) (Nat.not_lt.mpr ha)
  refine make_core (makes_of X hm) (looks_findIn X hi) (fun self => bind_fn X self (beq_iff_eq.mp hf)) (.inl rfl) (h _ hh.objs.size _ (fun b o _ e => Heap.get?_push_of_some _ (Heap.get?_push_of_some _ e)) ?_ ?_ (nn _ (Nat.le_succ _)) (nn _ (Nat.le_refl _)))
  · have := Heap.get?_push_size (h := hh.push (dictOf [] 0)) (o := instObj C hh.objs.size) rfl
    rwa [Heap.size_push] at this
  · exact Heap.get?_push_of_some _ (Heap.get?_push_size _ rfl)


end
section

structure Aft (W : List Addr) (s s' : Shared) : Prop where
  mod : Mod W s.heap s'.heap
  drawn : s'.drawn = s.drawn
  os : s'.os = s.os
  gens : AllBare s.gens → AllBare s'.gens
theorem Aft.plain {W : List Addr} {s : Shared} {h' : Heap} {tk : Nat} (m : Mod W s.heap h') : Aft W s { s with heap := h', toks := tk } := ⟨m, rfl, rfl, id⟩
theorem Aft.trans {W : List Addr} {s s' s'' : Shared} (a : Aft W s s') (b : Aft W s' s'') : Aft W s s'' := ⟨a.mod.trans b.mod, b.drawn.trans a.drawn, b.os.trans a.os, fun x => b.gens (a.gens x)⟩
theorem Aft.mono {W W' : List Addr} {s s' : Shared} (a : Aft W s s') (h : ∀ b ∈ W, b ∈ W') : Aft W' s s' := ⟨a.mod.mono h, a.drawn, a.os, a.gens⟩
theorem Aft.refl (W : List Addr) (s : Shared) : Aft W s s := ⟨.refl _ _, rfl, rfl, id⟩

structure BH where
  (x dx l : Addr)
  cnt : Nat
  p : Nat → Bool
def IsBlooms (D : BD) (h₀ h : Heap) (bs : List BH) : Prop := ∀ b ∈ bs, IsBloom D h₀ h b.x b.dx b.l b.cnt b.p
def feet (bs : List BH) : List Addr := bs.flatMap fun b => [b.x, b.dx, b.l]
def Tab (h₀ h : Heap) : Prop := ∃ ps, At h₀ h 418 (tabObj ps) ∧ (ps = #[] ∨ ∃ c', ps = #[rawInt 221, rawInt 19, .ref c'])
abbrev refs (bs : List BH) : List Value := bs.map fun b => .ref b.x
abbrev expO (de L : Addr) (hf : Value) (est bits added : Int) (t1 t2 t3 : Tok) : Obj := ⟨.ref 457, some de, .plain, #[some (.int est t1), some (.int bits t2), some hf, some (.int added t3), some (.ref L)]⟩
abbrev rotO (de L : Addr) (hf : Value) (est bits added q : Int) (t1 t2 t3 t4 : Tok) : Obj := ⟨.ref 539, some de, .plain, #[some (.int q t4), some (.int est t1), some (.int bits t2), some hf, some (.int added t3), some (.ref L)]⟩
theorem IsBlooms.mod {D : BD} {h₀ h h' : Heap} {W : List Addr} {bs : List BH} (b : IsBlooms D h₀ h bs) (m : Mod W h h') (n : ∀ a ∈ feet bs, a ∉ W) : IsBlooms D h₀ h' bs := fun c hc =>
  (b c hc).mod m (n _ (List.mem_flatMap.mpr ⟨c, hc, by simp⟩)) (n _ (List.mem_flatMap.mpr ⟨c, hc, by simp⟩)) (n _ (List.mem_flatMap.mpr ⟨c, hc, by simp⟩))
theorem Tab.mod {h₀ h h' : Heap} {W : List Addr} (t : Tab h₀ h) (m : Mod W h h') (n : 418 ∉ W) : Tab h₀ h' := let ⟨ps, a, b⟩ := t; ⟨ps, a.mod m n, b⟩

theorem any_range_get {α : Type} (bs : List α) (f : α → Bool) : (List.range bs.length).any (fun i => (bs[i]?.map f).getD false) = bs.any f := by
  rw [Bool.eq_iff_iff, List.any_eq_true, List.any_eq_true]
  constructor
  · rintro ⟨j, hj, h⟩
    have hj' := List.mem_range.mp hj
    rw [List.getElem?_eq_getElem hj'] at h
    exact ⟨bs[j], List.getElem_mem hj', h⟩
  · rintro ⟨b, hb, h⟩
    obtain ⟨j, hj, rfl⟩ := List.getElem_of_mem hb
    exact ⟨j, List.mem_range.mpr hj, by rw [List.getElem?_eq_getElem hj]; exact h⟩
def BH.has (D : BD) (hs : List Int) (b : BH) : Bool := (hs.take D.nh).all fun y => b.p (y.fmod D.bits).toNat

theorem passing_all (n : Nat) : passing (fun _ => true) n 0 = List.range n := by
  unfold passing
  rw [List.drop_zero]
  exact List.filter_eq_self.mpr fun _ _ => rfl

section
variable {prog : Program} {w : World} {A : Around} {E : Value → Shared → Prop} {s : Shared}

theorem gen_any {env : Env} {elt iter : PySem.Expr} {x : Str} {px : Pos} {scope : Scope} {cl : List (Str × Addr)} {pos : Pos} {c P l bm : Addr} {ps : Array Value} {vs : List Value} {tr : Nat → Bool} {mg : Str → Option Value} {ob : Obj} {Q : Value → Shared → Prop}
    (hh : A.handled = none) (hco : scope.isCoroutine = false) (hclos : closureFor scope env = pure cl) (hcell : ∀ y ∈ scope.names, y.2 ≠ .cell) (h0 : scope.names.lookup (".0" : Str) = some NameKind.local)
    (hx : scope.names.lookup x = some .local) (hkind : scope.kind = .function) (hroom : A.depth < recursionLimit) (hcode : env.code = .ref c) (hgl : env.globals = mainGlobals)
    (hps : ps = #[] ∨ ∃ c', ps = #[rawInt pos.line, rawInt pos.col, .ref c'])
    (hit : wpAny (model prog w) A (eval iter env) (fun xv s₁ => xv = .ref l ∧ s₁.heap.IsList l vs.toArray ∧ s₁.heap.NoLimit ∧ CodeHd s₁.heap c P ∧ s₁.heap.get? P = some (tabObj ps) ∧ BMod s₁.heap mainGlobals mg bm ob ∧
      (∀ C code A' E' i v t m₂, A'.handled = none → A'.depth ≤ A.depth + 1 → A'.units ≤ A.units + 8 → vs[i]? = some v → t.heap.Ns C m₂ → m₂ x = some v → s₁.heap.get? C = none →
        (∀ b o, b ≠ P → s₁.heap.get? b = some o → t.heap.get? b = some o) →
        wpAny (model prog w) A' (eval elt (genEnv scope cl C code builtinsNs env)) (fun y s₃ => y = .bool (tr i) ∧ Keeps t s₃) E' t) ∧
      (∀ a s₅, (∀ (Q' : Value → Shared → Prop) E', (∀ s', Aft [P] s₁ s' → (∃ ps', s'.heap.get? P = some (tabObj ps') ∧ (ps' = #[] ∨ ∃ c', ps' = #[rawInt pos.line, rawInt pos.col, .ref c'])) → Q' (.bool ((List.range vs.length).any tr)) s') →
          wpAny (model prog w) A (call (.builtin "any") [.ref a]) Q' E' s₅) → Q (.ref a) s₅)) E s)
    (hs : ∀ x, genFold iter env x = pure x) :
    wpAny (model prog w) A (eval (.GeneratorExp elt [⟨.Name x px, iter, [], 0⟩] scope pos) env) Q E s := by
  refine wpAny_GeneratorExp_walksQD hh hco hclos hcell h0 hx hkind hroom (wpAny_mono hit (fun xv s₁ h₁ => ?_) fun _ _ e => e) hs
  obtain ⟨rfl, hl, hlim, hcd, hP, hbm, helt, hret⟩ := h₁
  obtain ⟨ol, hol, hcl, _⟩ := id hl
  have hlP : l ≠ P := fun e => by rw [e, hP] at hol; cases hol; exact absurd hcl (by simp)
  have hlsz : l < s₁.heap.objs.size := Heap.lt_size hol
  have hIP : s₁.heap.objs.size ≠ P := fun e => absurd (Heap.lt_size hP) (e ▸ Nat.lt_irrefl _)
  have htr : TriplesOk ps.toList := by
    rcases hps with rfl | ⟨c', rfl⟩
    · trivial
    · simp [TriplesOk, rawInt]
  refine wpAny_pyIter_list hl ⟨hlim.push _, ?_⟩
  generalize hh2 : ({ s₁ with heap := s₁.heap.push { cls := .type "list_iterator", data := .fields #[.ref l, .int 0 0] } } : Shared) = s₂
  have hk2 : ∀ b o, s₁.heap.get? b = some o → s₂.heap.get? b = some o := fun b o e => by subst hh2; exact Heap.get?_push_of_some _ e
  have hst2 : s₂.heap.IsListIter s₁.heap.objs.size l 0 ∧ s₂.heap.IsList l vs.toArray := by subst hh2; exact ⟨⟨_, Heap.get?_push_size _ rfl, rfl, rfl⟩, hl.push _⟩
  have hsz2 : s₂.heap.objs.size = s₁.heap.objs.size + 1 := by subst hh2; exact Heap.size_push ..
  have hg2 : s₂.gens = s₁.gens ∧ s₂.drawn = s₁.drawn ∧ s₂.os = s₁.os := by subst hh2; exact ⟨rfl, rfl, rfl⟩
  -- the rest, whatever the code object is
  have rest : ∀ (c' : Value) (h₃ : Heap) (tk : Nat), Heap.ExtBut P s₂.heap h₃ → s₂.heap.objs.size ≤ h₃.objs.size → (∃ ps', h₃.get? P = some (tabObj ps') ∧ (ps' = #[] ∨ ∃ c', ps' = #[rawInt pos.line, rawInt pos.col, .ref c'])) →
      wpAny (model prog w) A (builtinsFor env.globals env.builtins) (fun bi s₄ =>
        ∃ I fp wr n₀ P St₀ pz F, Value.ref s₁.heap.objs.size = .ref I ∧ (∀ A' : Around, A'.handled = none → Walks prog w A' I fp wr n₀ P St₀) ∧ St₀ 0 s₄.heap ∧ (∀ b ∈ fp, b < s₄.heap.objs.size) ∧ s₄.heap.NoLimit ∧ cStatics ∉ wr ∧
          (∀ href : Heap, (∀ b o, s₄.heap.get? b = some o → href.get? b = some o) →
            QuietGenD prog w (genEnv scope cl s₄.heap.objs.size c' bi env) x [] elt (List.range s₄.heap.objs.size) wr P pz F href (A.depth + 1) (A.units + 8)) ∧
          (∀ a h₅ tk gs, gs.bare = true → s₄.heap.objs.size < a → h₅.objs.size = a + 1 → (∀ b o, s₄.heap.get? b = some o → h₅.get? b = some o) →
            WalksS prog w A.in4 a (a :: s₄.heap.objs.size :: List.range s₄.heap.objs.size) (s₄.heap.objs.size :: wr) (GenOnlyQ s₄.gens.size) (passing pz n₀ 0).length
              (fun j y => ∃ i, (passing pz n₀ 0)[j]? = some i ∧ F i y) (GenAt prog w A.in4 a s₄.gens.size s₄.heap.objs.size (List.range s₄.heap.objs.size) wr pz n₀ F) →
            GenAt prog w A.in4 a s₄.gens.size s₄.heap.objs.size (List.range s₄.heap.objs.size) wr pz n₀ F 0 { s₄ with gens := s₄.gens.push gs, toks := tk, heap := h₅ } →
            Q (.ref a) { s₄ with gens := s₄.gens.push gs, toks := tk, heap := h₅ })) E { s₂ with heap := h₃, toks := tk } := by
    intro c' h₃ tk hx3 hsz3 htab
    have k3 : ∀ b o, b ≠ P → s₁.heap.get? b = some o → h₃.get? b = some o := fun b o hb e => hx3 b o hb (hk2 b o e)
    have bP : mainGlobals ≠ P ∧ bm ≠ P := by
      refine ⟨fun e => ?_, fun e => ?_⟩
      · obtain ⟨o, es, ep, ho, hd, _⟩ := hbm.ns
        rw [e, hP] at ho; cases ho; cases hd
      · have := hbm.obj
        rw [e, hP] at this
        have h2 := hbm.cls
        cases this
        cases h2
    have hns : h₃.Ns mainGlobals mg := hbm.ns.at' fun o e => k3 _ o bP.1 e
    have hcP : cStatics ≠ P := fun e => by
      obtain ⟨_, hn, _⟩ := hlim
      obtain ⟨o, es, ep, ho, hd, _⟩ := hn
      rw [e, hP] at ho; cases ho; cases hd
    have hl3 : h₃.NoLimit := by
      obtain ⟨mc, hn, hnn⟩ := hlim
      exact ⟨mc, hn.at' fun o e => k3 _ o hcP e, hnn⟩
    rw [hgl]
    refine wpAny_builtinsFor (s := { s₂ with heap := h₃, toks := tk }) hns hbm.name hbm.ne (k3 _ _ bP.2 hbm.obj) hbm.cls hbm.dict hbm.data ?_
    have hIlt : s₁.heap.objs.size < h₃.objs.size := by omega
    refine ⟨s₁.heap.objs.size, [s₁.heap.objs.size, l], [s₁.heap.objs.size], vs.toArray.size, _, _, (fun _ => true), (fun i y => y = .bool (tr i)), rfl, fun A' hA => Walks.list hA _ _ (Nat.ne_of_lt hlsz) vs.toArray, ?_, ?_, hl3, ?_, ?_, ?_⟩
    · exact ⟨hst2.1.at fun o e => hx3 _ o hIP e, hst2.2.at fun o e => hx3 _ o hlP e⟩
    · intro b hb
      show b < h₃.objs.size
      rcases List.mem_cons.mp hb with rfl | hb
      · exact hIlt
      · rw [List.mem_singleton.mp hb]; exact Nat.lt_trans hlsz hIlt
    · intro hm
      have := List.mem_singleton.mp hm
      obtain ⟨mc, hn, _⟩ := hlim
      exact absurd hn.lt (by rw [this]; exact Nat.lt_irrefl _)
    · intro href hhref
      refine ⟨fun A' E' i v t m₂ _ _ _ _ _ _ _ => ?_, fun A' E' i v t m₂ hA hD hU hPv _ hn hm hkp => ?_⟩
      · simp only [List.forIn_nil]
        exact wpAny_pure ⟨rfl, t.heap, t.toks, rfl, fun _ _ e => e⟩
      · refine helt _ c' A' E' i v t m₂ hA hD hU (by simpa using hPv) hn hm ?_ fun b o hb e => ?_
        · cases q : s₁.heap.get? h₃.objs.size with
          | none => rfl
          | some o => exact absurd (Heap.lt_size q) (Nat.not_lt.mpr (Nat.le_of_lt hIlt))
        · refine hkp b (List.mem_range.mpr (Heap.lt_size (k3 b o hb e))) (fun hm => ?_) o (hhref b o (k3 b o hb e))
          rw [List.mem_singleton.mp hm] at e
          exact Nat.lt_irrefl _ (Heap.lt_size e)
    · intro a h₅ tk₅ gs hgs ha hsz5 hk5 W hat
      refine hret a _ fun Q' E' hQ' => ?_
      have hlen : (passing (fun _ => true) vs.toArray.size 0).length = vs.length := by rw [passing_all]; simp
      rw [hlen] at W
      have W' := W.imp (P' := fun j y => y = .bool (tr j)) fun j y hy => by
        obtain ⟨i, hi, hF⟩ := hy
        rw [passing_all] at hi
        have : i = j := by
          rw [List.getElem?_range (by
            have := (List.getElem?_eq_some_iff.mp hi).1
            simpa using this)] at hi
          exact (Option.some.inj hi).symm
        subst this
        exact hF
      have W1 := W'.in4_1
      have htru : TruthOf prog w A.in1 (fun j y => y = Value.bool (tr j)) tr := fun i v s Q E hv hQ => by
        subst hv
        exact wpAny_truthy_bool hQ
      refine call_any_walkS (W1.self 0 _ _ _ hat ⟨a, _, _, _, _, _, _, tr, rfl, W1, hat, htru, fun s' hm => ?_⟩)
      have kk : ∀ b o, h₃.get? b = some o → b ≠ s₁.heap.objs.size → s'.heap.get? b = some o := fun b o e hb => by
        refine hm.heap b o (fun hmem => ?_) (hk5 b o e)
        rcases List.mem_cons.mp hmem with h1 | h1
        · have := Heap.lt_size e
          rw [h1] at this
          exact Nat.lt_irrefl _ this
        · exact hb (List.mem_singleton.mp h1)
      refine hQ' s' ⟨fun b o hb e => ?_, ?_, ?_, fun hb => ?_⟩ ?_
      · exact kk b o (k3 b o (by simpa using hb) e) (Nat.ne_of_lt (Heap.lt_size e))
      · exact hm.drawn.trans hg2.2.1
      · exact hm.os.trans hg2.2.2
      · refine hm.gens.bare ?_
        show AllBare (s₂.gens.push gs)
        exact AllBare.push (hg2.1 ▸ hb) hgs
      · obtain ⟨ps', hp', hd'⟩ := htab
        exact ⟨ps', kk P _ hp' (Ne.symm hIP), hd'⟩
  have hcd2 : CodeHd s₂.heap c P := hcd.keeps hk2
  have hP2 := hk2 _ _ hP
  rcases hps with rfl | ⟨c', rfl⟩
  · refine wpAny_genexprCodeX hcode (hcd2.code hP2 trivial) (hcd2.tab hP2) rfl fun c' h₃ tk₃ hx₃ hge hlt _ _ htab₃ _ => ?_
    exact rest (.ref c') h₃ tk₃ hx₃ (by omega) ⟨_, htab₃.2, .inr ⟨c', rfl⟩⟩
  · refine wpAny_genexprCode_hit hcode (hcd2.code hP2 (by simp [TriplesOk, rawInt])) (c' := .ref c') (by simp [codeAmong, rawInt]) ?_
    exact rest (.ref c') s₂.heap s₂.toks (fun _ _ _ e => e) (Nat.le_refl _) ⟨_, hP2, .inr ⟨c', rfl⟩⟩
end

theorem enterC {w : World} {A : Around} {R : Result → Shared → Prop} {s : Shared} {h₀ : Heap} {name qual : Str} {params : Arguments} {body : List Stmt} {scope : Scope} {dV kV doc pm cdv ct oc : Value} {an od : Option Addr} {osl : Array (Option Value)} {f : Addr} {args : Args} {binds : List (Str × Value)}
    (news : List (Addr × Obj))
    (O : On w h₀ s.heap) (N : AllAt h₀ s.heap news)
    (ho : (hd1.heap_39 w.params).lookup f = some ⟨oc, od, .func (fnOf name qual params body scope dV kV doc pm an cdv ct), osl⟩) (hcd : codeIn (hd1.heap_39 w.params) cdv qual = true) (hroom : A.depth < recursionLimit)
    (hbind : BindsTo s (fnOf name qual params body scope dV kV doc pm an cdv ct) args binds) (hkind : (binds.all fun y => scope.names.lookup y.1 == some .local || scope.names.lookup y.1 == some .cell) = true)
    (hnd : ((cellsFrom 0 scope.names []).map (·.1)).Nodup)
    (h : ∀ (g : Heap) (L' : Addr) (h₁ : Heap) (tk : Nat) (cells : List (Addr × Obj)) (p : Program) (loose : List Str) (mean : ExcName → Option Value) (mg mb : Str → Option Value),
      (∀ b o, h₀.get? b = some o → g.get? b = some o) → (∀ b o, b ∉ news.map (·.1) → s.heap.get? b = some o → g.get? b = some o) → (∀ b o, s.heap.get? b = some o → h₁.get? b = some o) →
      Fr g L' h₁ (bindL (envOfC qual scope L' f cdv).kindOf binds fun _ => none) → News g L' h₁ (cells ++ news) → CellsAre (bindC (envOfC qual scope L' f cdv).kindOf binds fun _ => none) (cellsFrom (L' + 1) scope.names []) cells →
      (∀ p ∈ news, p.1 < L') → s.heap.objs.size = L' → (hd1.heap_39 w.params).In g → Top p loose mean mg mb g →
      wpAny (model PR w) (A.deeper (envOfC qual scope L' f cdv)) (execs body (envOfC qual scope L' f cdv))
        (fun fl s' => R (.ok (.ret (match fl with | .ret v => v | _ => .none))) s')
        (fun _ _ => False)
        { s with heap := h₁, toks := tk })
    (hco : scope.isCoroutine = false) (hgen : scope.isGenerator = false) (hk : scope.kind = .function) : codeAny (model PR w) A (.call (.ref f) args) R s := by
  obtain ⟨⟨X₀, p, loose, mean, mg, mb, T⟩, st⟩ := O
  have nm : ∀ b o, h₀.get? b = some o → b ∉ news.map (·.1) := fun b o e q => by
    obtain ⟨p, hp, rfl⟩ := List.mem_map.mp q
    rw [(N p hp).2] at e; cases e
  have st' : ∀ b o, h₀.get? b = some o → (hideAll s.heap (news.map (·.1))).get? b = some o := fun b o e => hideAll_get _ (st b o e) (nm b o e)
  refine codeAny_call_function hroom ((X₀.keeps st) _ _ ho) rfl hco hgen rfl (codeRec_of (X₀.keeps st) hcd) (hbind _ _ _ _ ?_)
  refine wpAny_newFunctionEnv_cells hk (kindsX hkind _) fun env' he s' x => ?_
  subst he
  refine ⟨(T.nolimit.keeps st).keeps x.toInCall.keep, codeAny_func ?_⟩
  obtain ⟨h₁, tk, rfl, _⟩ := x.done
  have hk₁ := x.toInCall.keep
  obtain ⟨cells, NC, Y⟩ := Cl.news (h₀ := s.heap) (Nat.le_refl _) fun n c hm => ⟨x.cell n c (lookup_of_mem_nodup (cellsFrom_names scope.names 0 (s.heap.objs.size + 1) [] [] rfl ▸ hnd) hm), x.above n c hm⟩
  refine wpAny_mono (h (hideAll s.heap (news.map (·.1))) s.heap.objs.size h₁ tk cells p loose mean mg mb st' (fun b o hb e => hideAll_get _ e hb) hk₁ ⟨x.toInCall.ns, fun b o e => hk₁ b o (of_hideAll _ e), Nat.le_of_eq (hideAll_size _ _)⟩ (fun p hp => ?_) Y (fun p hp => Heap.lt_size (N p hp).1) rfl (X₀.keeps st') (T.keeps st')) (fun _ _ y => y) fun _ _ y => y.elim
  rcases List.mem_append.mp hp with hp | hp
  · refine ⟨(NC p hp).1, (NC p hp).2.1, ?_⟩
    cases q : (hideAll s.heap (news.map (·.1))).get? p.1 with
    | none => rfl
    | some o => have := of_hideAll _ q; rw [(NC p hp).2.2] at this; cases this
  · exact ⟨hk₁ _ _ (N p hp).1, Nat.ne_of_lt (Heap.lt_size (N p hp).1), hideAll_none _ (List.mem_map_of_mem hp)⟩


end
theorem fill1 : ∀ (w : World) h, (hd1.heap_39 w.params).In h → PySem.Challenge.rw_sv0019_01 = PySem.Challenge.rw_sv0019_01 := by
  w_top off
  k_fill
  intros; rfl
section
local macro_rules | `(tactic| walk_at "binaryOp Mod int int") => `(tactic| ((with_reducible refine mod8_nat ?_)))
local macro_rules | `(tactic| walk_at "binaryOp Mod int int") => `(tactic| ((with_reducible refine mod_any (by assumption) ?_); intro r1 hr1 hr2))
local macro_rules | `(tactic| walk_at "binaryOp FloorDiv int int") => `(tactic| ((with_reducible refine div8_nat (by omega) ?_)))
local macro_rules | `(tactic| walk_at "binaryOp LShift int int") => `(tactic| ((with_reducible refine shl1_nat (by omega) ?_)))
local macro_rules | `(tactic| walk_at "subscriptTail") => `(tactic| (k_here; (with_reducible show wpAny _ _ (subscriptTail _ _ (Value.ref _) (Value.int _ _)) _ _ _); (with_unfolding_all refine' item_ints ?k1 ?k2 ?k3 ?k4 ?k5 ?_ ?k7; (case k1 => exact News.isList (by k_asm) (by k_mem)); (case k2 => assumption); (case k3 => omega); (case k4 => omega); (case k5 => omega); (case k7 => with_unfolding_all rfl); k_whole); intro _))
local macro_rules | `(tactic| walk_at "bf dec") => `(tactic| ((try simp only [decide_eq_true_eq, decide_eq_false_iff_not, Bool.not_eq_true', Bool.not_eq_false', Bool.not_eq_true, Bool.not_eq_false, beq_iff_eq, Bool.and_eq_true, Bool.not_true, Bool.not_false]); first | rfl | omega))
local macro_rules | `(tactic| walk_at "ite") => `(tactic| (k_here; (first | (k_closed; k_dflt (first | refine ite_pos (by decide) ?_ | refine ite_neg (by decide) ?_)) | refine ite_pos (by first | assumption | (walk_at "bf dec")) ?_ | refine ite_neg (by first | assumption | (walk_at "bf dec")) ?_ | (refine bf_ite ?_ ?_ <;> intro hc)); (try dsimp only)))
local macro_rules | `(tactic| walk_at "bf steps") => `(tactic| repeat' (first | (k_unfold; (try dsimp only)) | (walk1 <;> (try dsimp only)) | fail "no step"))
local macro_rules | `(tactic| walk_at "bf enter") => `(tactic| (refine' enter _ (by assumption) (by assumption) ?ho ?hcd ?hroom ?hbind ?hloc ?_ ?c1 ?c2 ?c3 ?c4; (case ho => k_is); (case hcd => k_is); (case hroom => first | assumption | omega | exact Room.lt (by assumption)); (case hbind => first | exact BindsTo.of_eq rfl | exact binds_K (by assumption) rfl (by k_is) rfl rfl rfl); (case hloc => exact locs rfl); (case c1 => exact rfl); (case c2 => exact rfl); (case c3 => exact rfl); (case c4 => decide)))
local macro_rules | `(tactic| walk_at "getMethod ref") => `(tactic| (k_here; (with_reducible show wpAny _ _ (getMethod _ (Str.ofString "_get_optimized_params") _) _ _ _); k_dflt (refine' cm_slot ?k1 ?k2 ?k3 ?k4 ?k5 ?k6 ?k7 ?k8 ?k9 ?k10 ?k11 ?k12 ?k13 ?_; (case k1 => k_asm); (case k2 => k_asm); (case k3 => k_asm); (case k4 => k_inst); (case k5 => k_is); (case k6 => k_is); (case k7 => k_is); (case k8 => k_is); (case k9 => k_is); (case k10 => k_is); (case k11 => k_is); (case k12 => decide +kernel); (case k13 => k_is); k_whole; intro q' h' F' N' l1; (try k_lt l1))))
local macro_rules | `(tactic| walk_at "callWith ref") => `(tactic| (k_here; (with_reducible show wpAny _ _ (callWith _ _ _ (backTo _ (starEach (_ :: _) _)) []) _ _ _); k_dflt (refine' callWith_K ?k1 ?k2 ?_; (case k1 => k_asm); (case k2 => k_is); k_whole)))
local macro_rules | `(tactic| walk_at "callWith ref") => `(tactic| (k_here; (with_reducible show wpAny _ _ (callWith _ _ _ _ (backToKw _ (keywordEach (_ :: _) _))) _ _ _); k_dflt (refine' callWith_KW ?k1 ?k2 ?k3 ?_; (case k1 => k_asm); (case k2 => k_is); (case k3 => exact rfl); k_whole)))
local macro_rules | `(tactic| walk_at "call builtin:len") => `(tactic| (k_here; (with_reducible show wpAny _ _ (call (Value.builtin "len") [Value.ref _]) _ _ _); (with_unfolding_all refine' call_len_list (items := (refs _).toArray) ?k1 ?k2 ?_; (case k1 => exact News.isList (by k_asm) (by k_mem)); (case k2 => (rw [List.size_toArray]; omega)); k_whole)))
section
theorem check_alt_spec {w : World} {A : Around} {R : Result → Shared → Prop} {s : Shared} {h₀ : Heap} {D : BD} {x dx l hl : Addr} {cnt : Nat}
    {hs : List Int} {p : Nat → Bool}
    (O : On w h₀ s.heap) (hr : Room A 3) (ok : D.Ok) (B : IsBloom D h₀ s.heap x dx l cnt p) (I : IsInts h₀ s.heap hl hs) (hnh : D.nh ≤ hs.length)
    (ret : ∀ h' tk', Mod [] s.heap h' → R (.ok (.ret (.bool ((hs.take D.nh).all fun y => p (y.fmod D.bits).toNat)))) { s with heap := h', toks := tk' }) :
    codeAny (model PySem.Challenge.rw_sv0019_01.row.prog w) A (.call (.ref 262) ⟨[.ref x, .ref hl], []⟩) R s := by
  obtain ⟨bits, est, nh, nb, hf⟩ := D
  obtain ⟨hbits, hnb, hnb2, hnh2, hest, hest2, _⟩ := ok
  obtain ⟨t1, t2, t3, t4, t5, t6, t7, t8, bsv, bs, nn, hx, hd, hl', hbi, hB⟩ := B
  obtain ⟨hsv, nm, hh, hhi⟩ := I
  dsimp only at *
  have Al : AllAt h₀ s.heap [(x, bloomO dx l hf nb cnt est bits nh t1 t2 t3 t4 t5 t6 t7 t8), (dx, dictOf [] 0), (l, listO bsv nn), (hl, listO hsv nm)] :=
    List.forall_mem_cons.mpr ⟨hx, List.forall_mem_cons.mpr ⟨hd, List.forall_mem_cons.mpr ⟨hl', List.forall_mem_cons.mpr ⟨hh, List.forall_mem_nil _⟩⟩⟩⟩
  walk_at "bf enter"
  have hA := hr.hd
  have hbl := hB.1
  intro g L' h₁ p₁ loose mean mg mb hg0 hg2 F N X T
  (try dsimp only); (try k_fold)
  walk_at "bf steps"
  rename Fr _ _ _ _ => F0
  rename News _ _ _ _ => N0
  rename IsRange _ _ _ _ _ _ _ _ => R0
  refine iter_rangeJ (n := nh) (fun i m nx => nx = [(x, bloomO dx l hf nb cnt est bits nh t1 t2 t3 t4 t5 t6 t7 t8), (dx, dictOf [] 0), (l, listO bsv nn), (hl, listO hsv nm)] ∧
      (∃ ui uk, m = fun y => if y = Str.ofString "i" then ui else if y = Str.ofString "k" then uk else List.lookup y [(Str.ofString "hashes", Value.ref hl), (Str.ofString "self", Value.ref x)]) ∧
      (hs.take i).all (fun y => p (y.fmod bits).toNat) = true) hA R0 rfl (by omega) F0 N0 ⟨rfl, ⟨none, none, ?m0⟩, rfl⟩ ?turn ?done
  case m0 =>
    funext y
    by_cases h1 : y = Str.ofString "i"
    · subst h1; rfl
    · by_cases h2 : y = Str.ofString "k"
      · subst h2; rfl
      · rw [if_neg h1, if_neg h2]
        rfl
  case done =>
    rintro m₁ nx h tk ⟨rfl, ⟨ui, uk, rfl⟩, hall⟩ F3 N3
    clear F0 N0 R0
    walk_at "bf steps"
    have := ret h tk (mod_of [] hg2 F3 N3 Al (fun p hp _ => hp))
    rw [hall] at this
    exact this
  case turn =>
    rintro i t m₁ nx h tk own hi hoff had ⟨rfl, ⟨ui, uk, rfl⟩, hall⟩ F3 N3
    clear F0 N0 R0
    walk_at "bf steps"
    case _ =>
      rename_i tA r hr1 hr2 h' F' N' tB tC hc
      have hb := bits_test (k := r) hB (by omega)
      have e1 : ((r / 8 : Nat) : Int).toNat = r / 8 := Int.toNat_natCast _
      rw [e1] at hc
      have hp : p r = false := by
        have : decide (Builtin.bitAnd (bs.getD (r / 8) 0) ((2 ^ (r % 8) : Nat) : Int) = 0) = true := decide_eq_true (by simpa using hc)
        rw [hb] at this
        simpa using this
      have h1 := ret h' tk (mod_of [] hg2 F' N' Al (fun p hp _ => List.mem_append_left _ hp))
      have h2 : (hs.take nh).all (fun y => p (y.fmod bits).toNat) = false := by
        have h3 := all_take_succ (f := fun y => p (y.fmod bits).toNat) (i := i) (by omega) hall
        have e2 : ((i : Nat) : Int).toNat = i := Int.toNat_natCast _
        rw [e2] at hr2
        rw [hr2, hp] at h3
        have h4 : hs.take nh = hs.take (i + 1) ++ (hs.take nh).drop (i + 1) := by
          have := List.take_append_drop (i + 1) (hs.take nh)
          rw [List.take_take, Nat.min_eq_left (by omega)] at this
          exact this.symm
        rw [h4, List.all_append, h3]
        rfl
      rw [h2] at h1
      exact h1
    case _ =>
      rename_i tA r hr1 hr2 h' F' N' tB tC hc
      have hb := bits_test (k := r) hB (by omega)
      have e1 : ((r / 8 : Nat) : Int).toNat = r / 8 := Int.toNat_natCast _
      rw [e1] at hc
      have hp : p r = true := by
        have : decide (Builtin.bitAnd (bs.getD (r / 8) 0) ((2 ^ (r % 8) : Nat) : Int) = 0) = false := decide_eq_false (by simpa using hc)
        rw [hb] at this
        simpa using this
      have e2 : ((i : Nat) : Int).toNat = i := Int.toNat_natCast _
      rw [e2] at hr2
      have h3 := all_take_succ (f := fun y => p (y.fmod bits).toNat) (i := i) (by omega) hall
      rw [hr2, hp] at h3
      refine InvEndN.intro F' N' ⟨rfl, two_map fun y h1 h2 => ?_, h3⟩ rfl (fun p hp => List.mem_append_left _ hp) (fun p hp => List.mem_append_right _ hp)
      simp only [if_neg h1, if_neg h2]
end
section
theorem add_alt_spec {w : World} {A : Around} {R : Result → Shared → Prop} {s : Shared} {h₀ : Heap} {D : BD} {x dx l hl : Addr} {cnt : Nat}
    {hs : List Int} {p : Nat → Bool}
    (O : On w h₀ s.heap) (hr : Room A 3) (ok : D.Ok) (B : IsBloom D h₀ s.heap x dx l cnt p) (I : IsInts h₀ s.heap hl hs) (hnh : D.nh ≤ hs.length) (hne : hl ≠ l)
    (ret : ∀ h' tk', Mod [x, l] s.heap h' → IsBloom D h₀ h' x dx l (cnt + 1) (fun q => p q || (hs.take D.nh).any fun y => decide ((y.fmod D.bits).toNat = q)) → R (.ok (.ret .none)) { s with heap := h', toks := tk' }) :
    codeAny (model PySem.Challenge.rw_sv0019_01.row.prog w) A (.call (.ref 248) ⟨[.ref x, .ref hl], []⟩) R s := by
  obtain ⟨bits, est, nh, nb, hf⟩ := D
  obtain ⟨hbits, hnb, hnb2, hnh2, hest, hest2, _⟩ := ok
  obtain ⟨t1, t2, t3, t4, t5, t6, t7, t8, bsv, bs, nn, hx, hd, hl', hbi, hB⟩ := B
  obtain ⟨hsv, nm, hh, hhi⟩ := I
  dsimp only at *
  have n1 := neN (fun e : x = l => At.clash hx (e ▸ hl'))
  have n2 := neN (fun e : x = dx => At.clash hx (e ▸ hd))
  have n4 := neN (fun e : x = hl => At.clash hx (e ▸ hh))
  have n3 := neN (fun e : dx = l => At.clash hd (e ▸ hl'))
  have n5 := neN hne
  have Al : AllAt h₀ s.heap [(x, bloomO dx l hf nb cnt est bits nh t1 t2 t3 t4 t5 t6 t7 t8), (dx, dictOf [] 0), (l, listO bsv nn), (hl, listO hsv nm)] :=
    List.forall_mem_cons.mpr ⟨hx, List.forall_mem_cons.mpr ⟨hd, List.forall_mem_cons.mpr ⟨hl', List.forall_mem_cons.mpr ⟨hh, List.forall_mem_nil _⟩⟩⟩⟩
  walk_at "bf enter"
  have hA := hr.hd
  have hbl := hB.1
  intro g L' h₁ p₁ loose mean mg mb hg0 hg2 F N X T
  (try dsimp only); (try k_fold)
  walk_at "bf steps"
  rename Fr _ _ _ _ => F0
  rename News _ _ _ _ => N0
  rename IsRange _ _ _ _ _ _ _ _ => R0
  refine iter_rangeJ (n := nh) (fun i m nx => (∃ v bs' n', nx = [(x, bloomO dx l hf nb cnt est bits nh t1 t2 t3 t4 t5 t6 t7 t8), (dx, dictOf [] 0), (l, listO v n'), (hl, listO hsv nm)] ∧ IntsAre v bs' ∧
        Bits bs' nb (fun q => p q || (hs.take i).any fun y => decide ((y.fmod bits).toNat = q))) ∧
      (∃ ui uk uj, m = fun y => if y = Str.ofString "i" then ui else if y = Str.ofString "k" then uk else if y = Str.ofString "idx" then uj else List.lookup y [(Str.ofString "hashes", Value.ref hl), (Str.ofString "self", Value.ref x)]))
      hA R0 rfl (by omega) F0 N0 ⟨⟨bsv, bs, nn, rfl, hbi, hB.congr (fun q _ => by simp)⟩, ⟨none, none, none, ?m0⟩⟩ ?turn ?done
  case m0 =>
    funext y
    by_cases h1 : y = Str.ofString "i"
    · subst h1; rfl
    · by_cases h2 : y = Str.ofString "k"
      · subst h2; rfl
      · by_cases h3 : y = Str.ofString "idx"
        · subst h3; rfl
        · rw [if_neg h1, if_neg h2, if_neg h3]
          rfl
  case done =>
    rintro m₁ nx h tk ⟨⟨v, bs', n', rfl, hv, hB'⟩, ⟨ui, uk, uj, rfl⟩⟩ F3 N3
    clear F0 N0 R0
    walk_at "bf steps"
    rename_i h' F' N'
    refine ret h' _ (mod_of [x, l] hg2 F' N' Al fun p hp hw => ?_) ⟨t1, _, t3, t4, t5, t6, t7, t8, v, bs', n', ⟨(N' _ (.head _)).1, hx.2⟩, ⟨(N' _ (.tail _ (.head _))).1, hd.2⟩, ⟨(N' _ (.tail _ (.tail _ (.head _)))).1, hl'.2⟩, hv, hB'⟩
    simp only [List.mem_cons, List.not_mem_nil, or_false] at hp hw ⊢
    rcases hp with rfl | rfl | rfl | rfl <;> simp_all
  case turn =>
    rintro i t m₁ nx h tk own hi hoff had ⟨⟨v, bs', n', rfl, hv, hB'⟩, ⟨ui, uk, uj, rfl⟩⟩ F3 N3
    clear F0 N0 R0 hB hbi
    have hbl' := hB'.1
    walk_at "bf steps"
    rename_i tA r hr1 hr2 h2 tB h3 tC tD h' F' N' hi' hl2 hs'
    have e1 : ((r / 8 : Nat) : Int).toNat = r / 8 := Int.toNat_natCast _
    have e2 : ((i : Nat) : Int).toNat = i := Int.toNat_natCast _
    rw [e1] at hi' N'
    rw [e2] at hr2
    have hS := bits_set (k := r) hB' (by omega)
    refine InvEndN.intro F' N' (nx := [(x, bloomO dx l hf nb cnt est bits nh t1 t2 t3 t4 t5 t6 t7 t8), (dx, dictOf [] 0), (l, _), (hl, listO hsv nm)])
      ⟨⟨_, _, n', rfl, hi', hS.congr fun q _ => ?_⟩, three_map fun y h1 h2 h3 => ?_⟩ rfl (fun p hp => ?_) (fun p hp => ?_)
    · rw [any_take_succ (by omega), hr2]
      by_cases hq : q = r
      · subst hq; simp
      · have : ¬ r = q := fun e => hq e.symm
        simp [hq, this]
    · simp only [if_neg h1, if_neg h2, if_neg h3]
    · simp only [List.mem_cons, List.not_mem_nil, or_false] at hp
      rcases hp with rfl | rfl | rfl | rfl
      · exact .head _
      · exact .tail _ (.head _)
      · exact .tail _ (.tail _ (.head _))
      · exact .tail _ (.tail _ (.tail _ (List.mem_append_left _ (.head _))))
    · exact .tail _ (.tail _ (.tail _ (List.mem_append_right _ hp)))
end
section
theorem gop_spec {w : World} {A : Around} {R : Result → Shared → Prop} {s : Shared} {h₀ : Heap} {est bits nh : Nat} {t1 t2 : Tok}
    (O : On w h₀ s.heap) (hr : Room A 3) (he : 0 < est) (he2 : est < 1000) (hb : 0 < bits) (hb2 : bits < 1000)
    (hn : ((13862943611198906 * (bits : Int)).fdiv est + 10 ^ Int.toNat 16).fdiv (2 * 10 ^ Int.toNat 16) = (nh : Int)) (hn0 : 0 < nh)
    (ret : ∀ r t h' tk', Mod [] s.heap h' → s.heap.get? r = none → At h₀ h' r (tupO [.int bits t2, .int nh t, .int bits t2]) → R (.ok (.ret (.ref r))) { s with heap := h', toks := tk' }) :
    codeAny (model PySem.Challenge.rw_sv0019_01.row.prog w) A (.call (.ref 290) ⟨[.ref 325, .int est t1, .int bits t2], []⟩) R s := by
  obtain ⟨hd0, dp0, fr0, gd0, un0⟩ := A
  obtain rfl : hd0 = none := hr.hd
  have Al : AllAt h₀ s.heap [] := List.forall_mem_nil _
  walk_at "bf enter"
  have hA := hr.hd
  intro g L' h₁ p₁ loose mean mg mb hg0 hg2 F N X T
  (try dsimp only); (try k_fold)
  have hz : ¬ (((13862943611198906 * (bits : Int)).fdiv est + 10 ^ Int.toNat 16).fdiv (2 * 10 ^ Int.toNat 16) == 0) = true := by
    rw [hn]; simp; omega
  walk_at "bf steps"
  rename_i D1 h1 F1 N1 l1
  rw [hn] at N1
  exact ret D1 _ h1 _ (mod_of [] hg2 F1 N1 Al (fun p hp => nomatch hp)) (new_of hg2 N1 (.head _) (by simp)) (At.ofNews hg0 N1 (.head _))
end
section
abbrev bloomPre (dx : Addr) (t1 t2 t3 t5 t6 t7 t8 : Tok) : Obj :=
  ⟨.ref 325, some dx, .plain, #[none, none, some (.int 0 t1), some (.int 0 t2), some (.int 0 t3), none, none, some (.int 0 t5), some (.int 0 t6), some (.bool false), some (.str (Str.ofString "regular") t7), some (.str (Str.ofString "B") t8)]⟩
abbrev bloomMid (dx : Addr) (hf : Value) (blen cnt est bits nh : Int) (t1 t2 t3 t4 t5 t6 t7 t8 : Tok) : Obj :=
  ⟨.ref 325, some dx, .plain, #[none, none, some (.int blen t1), some (.int cnt t2), some (.int est t3), some (.int bits t4), some hf, some (.int bits t5), some (.int nh t6), some (.bool false), some (.str (Str.ofString "regular") t7), some (.str (Str.ofString "B") t8)]⟩
theorem setv_spec {w : World} {A : Around} {R : Result → Shared → Prop} {s : Shared} {h₀ : Heap} {x dx f : Addr} {est bits nh : Nat} {a1 a2 a3 a4 t1 t2 t3 t5 t6 t7 t8 : Tok}
    (O : On w h₀ s.heap) (hr : Room A 3) (hb2 : bits < 1000) (hx : At h₀ s.heap x (bloomPre dx t1 t2 t3 t5 t6 t7 t8)) (hd : At h₀ s.heap dx (dictOf [] 0))
    (ret : ∀ u1 u2 u3 u4 u5 u6 h' tk', Mod [x] s.heap h' → At h₀ h' x (bloomMid dx (.ref f) ((bits + 7) / 8 : Nat) 0 est bits nh u1 u2 u3 u4 u5 u6 t7 t8) → R (.ok (.ret .none)) { s with heap := h', toks := tk' }) :
    codeAny (model PySem.Challenge.rw_sv0019_01.row.prog w) A (.call (.ref 300) ⟨[.ref x, .int est a1, .int bits a2, .int nh a3, .int bits a4, .ref f], []⟩) R s := by
  obtain ⟨hd0, dp0, fr0, gd0, un0⟩ := A
  obtain rfl : hd0 = none := hr.hd
  have n2 := neN (fun e : x = dx => At.clash hx (e ▸ hd))
  have Al : AllAt h₀ s.heap [(x, bloomPre dx t1 t2 t3 t5 t6 t7 t8), (dx, dictOf [] 0)] := List.forall_mem_cons.mpr ⟨hx, List.forall_mem_cons.mpr ⟨hd, List.forall_mem_nil _⟩⟩
  walk_at "bf enter"
  intro g L' h₁ p₁ loose mean mg mb hg0 hg2 F N X T
  (try dsimp only); (try k_fold)
  walk_at "bf steps"
  rename_i h1 F1 N1
  have e : -((-(bits : Int)).fdiv 8) = (((bits + 7) / 8 : Nat) : Int) := by
    rw [Int.fdiv_eq_ediv_of_nonneg _ (by omega)]; omega
  rw [e] at N1
  exact ret _ _ _ _ _ _ h1 _ (mod_of [x] hg2 F1 N1 Al (fun p hp hw => by
    simp only [List.mem_cons, List.not_mem_nil, or_false] at hp hw ⊢
    rcases hp with rfl | rfl <;> simp_all)) (At.ofNews hg0 N1 (.head _))
end
section
theorem loadi_spec {w : World} {A : Around} {R : Result → Shared → Prop} {s : Shared} {h₀ : Heap} {x dx f : Addr} {est bits nh : Nat} {a1 a2 t1 t2 t3 t5 t6 t7 t8 : Tok}
    (O : On w h₀ s.heap) (hr : Room A 8) (he : 0 < est) (he2 : est < 1000) (hb : 0 < bits) (hb2 : bits < 1000)
    (hn : ((13862943611198906 * (bits : Int)).fdiv est + 10 ^ Int.toNat 16).fdiv (2 * 10 ^ Int.toNat 16) = (nh : Int)) (hn0 : 0 < nh)
    (hx : At h₀ s.heap x (bloomPre dx t1 t2 t3 t5 t6 t7 t8)) (hd : At h₀ s.heap dx (dictOf [] 0))
    (ret : ∀ l h' tk', Mod [x] s.heap h' → s.heap.get? l = none → IsBloom ⟨bits, est, nh, (bits + 7) / 8, .ref f⟩ h₀ h' x dx l 0 (fun _ => false) → R (.ok (.ret .none)) { s with heap := h', toks := tk' }) :
    codeAny (model PySem.Challenge.rw_sv0019_01.row.prog w) A (.call (.ref 131) ⟨[.ref x, .none, .ref f, .none, .int est a1, .int bits a2], []⟩) R s := by
  obtain ⟨hd0, dp0, fr0, gd0, un0⟩ := A
  obtain rfl : hd0 = none := hr.hd
  have n2 := neN (fun e : x = dx => At.clash hx (e ▸ hd))
  have Al : AllAt h₀ s.heap [(x, bloomPre dx t1 t2 t3 t5 t6 t7 t8), (dx, dictOf [] 0)] := List.forall_mem_cons.mpr ⟨hx, List.forall_mem_cons.mpr ⟨hd, List.forall_mem_nil _⟩⟩
  walk_at "bf enter"
  intro g L' h₁ p₁ loose mean mg mb hg0 hg2 F N X T
  (try dsimp only); (try k_fold)
  walk_at "bf steps"
  rename_i q h1 F1 N1 l1
  refine wpAny_call (method_call (N1 _ (.head _)).1 ?_)
  refine gop_spec (h₀ := h₀) (nh := nh) (O.fr hg0 F1) (hr.down 4).deeper he he2 hb hb2 hn hn0 ?_
  intro r t h2 tk2 M2 hnew hr2
  dsimp only
  have F2 := fr_mod0 F1 M2
  have N2 := news_add (news_mod0 N1 M2) hr2.1 (fr_new F1 hnew)
  have l2 := neN (ne_new (N1 _ (.tail _ (.head _))).1 hnew)
  have l3 := neN (ne_new (N1 _ (.tail _ (.tail _ (.head _)))).1 hnew)
  have l4 := neN (ne_new (N1 _ (.head _)).1 hnew)
  clear F1 N1
  walk_at "bf steps"
  rename_i ha hb1 hc1 h3 F3 N3
  have xM : (x, bloomPre dx t1 t2 t3 t5 t6 t7 t8) ∈ [(r, tupO [.int bits a2, .int nh t, .int bits a2]), (q, methodObj (.ref 290) (.ref 325)), (x, bloomPre dx t1 t2 t3 t5 t6 t7 t8), (dx, dictOf [] 0)] := .tail _ (.tail _ (.head _))
  refine wpAny_call ?_
  refine setv_spec (h₀ := h₀) (bits := bits) (nh := nh) (O.fr hg0 F3) (hr.down 4).deeper hb2 (At.ofNews hg0 N3 xM) (At.ofNews hg0 N3 (.tail _ (.tail _ (.tail _ (.head _))))) ?_
  intro u1 u2 u3 u4 u5 u6 h4 tk4 M4 hx4
  dsimp only
  have F4 := fr_mod F3 M4 (by simpa using (N3 _ xM).2.1.symm) (by simpa using (N3 _ xM).2.2)
  have N4 : News g L' h4 [(x, bloomMid dx (.ref f) ((bits + 7) / 8 : Nat) 0 est bits nh u1 u2 u3 u4 u5 u6 t7 t8), (dx, dictOf [] 0)] :=
    news_add (news_mod (fun p hp => N3 p (.tail _ (.tail _ (.tail _ hp)))) M4 (by simpa using n2.symm)) hx4.1 (N3 _ xM).2
  clear F3 N3
  walk_at "bf steps"
  rename_i la h5 l5 D1 h6 i6 n6 s6 e6 e7 e8 l6 h7 F7 N7
  rw [Int.toNat_natCast, List.flatten_replicate_singleton] at N7
  rw [Int.toNat_natCast, List.flatten_replicate_singleton, List.flatten_replicate_singleton] at i6
  refine ret D1 h7 _ (mod_of [x] hg2 F7 N7 Al fun p hp hw => ?_) (new_of hg2 N7 (.head _) ?_)
    ⟨u1, u2, u3, u4, u5, u6, t7, t8, _, _, 0, At.ofNews hg0 N7 (.tail _ (.tail _ (.head _))), At.ofNews hg0 N7 (.tail _ (.tail _ (.tail _ (.head _)))), At.ofNews hg0 N7 (.head _), i6, bits_zero _⟩
  · simp only [List.mem_cons, List.not_mem_nil, or_false] at hp hw ⊢
    rcases hp with rfl | rfl <;> simp_all
  · simp only [List.map_cons, List.map_nil, List.mem_cons, List.not_mem_nil, or_false]
    exact fun h => h.elim (Nat.ne_of_gt l6.2.1) (Nat.ne_of_gt l6.2.2)
end
section
theorem init_kw {w : World} {A : Around} {R : Result → Shared → Prop} {s : Shared} {h₀ : Heap} {x dx f : Addr} {est bits nh : Nat} {a1 a2 : Tok}
    (O : On w h₀ s.heap) (hr : Room A 12) (he : 0 < est) (he2 : est < 1000) (hb : 0 < bits) (hb2 : bits < 1000)
    (hn : ((13862943611198906 * (bits : Int)).fdiv est + 10 ^ Int.toNat 16).fdiv (2 * 10 ^ Int.toNat 16) = (nh : Int)) (hn0 : 0 < nh)
    (hx : At h₀ s.heap x (instObj 325 dx)) (hd : At h₀ s.heap dx (dictOf [] 0))
    (ret : ∀ l h' tk', Mod [x] s.heap h' → s.heap.get? l = none → IsBloom ⟨bits, est, nh, (bits + 7) / 8, .ref f⟩ h₀ h' x dx l 0 (fun _ => false) → R (.ok (.ret .none)) { s with heap := h', toks := tk' }) :
    codeAny (model PySem.Challenge.rw_sv0019_01.row.prog w) A (.call (.ref 124) ⟨[.ref x], [(Str.ofString "est_elements", .int est a1), (Str.ofString "false_positive_rate", .int bits a2), (Str.ofString "hash_function", .ref f)]⟩) R s := by
  obtain ⟨hd0, dp0, fr0, gd0, un0⟩ := A
  obtain rfl : hd0 = none := hr.hd
  have n2 := neN (fun e : x = dx => At.clash hx (e ▸ hd))
  have XS : (hd1.heap_39 w.params).In s.heap := O.wd.1.keeps O.stays
  have Al : AllAt h₀ s.heap [(x, instObj 325 dx), (dx, dictOf [] 0)] := List.forall_mem_cons.mpr ⟨hx, List.forall_mem_cons.mpr ⟨hd, List.forall_mem_nil _⟩⟩
  walk_at "bf enter"
  intro g L' h₁ p₁ loose mean mg mb hg0 hg2 F N X T
  (try dsimp only); (try k_fold)
  walk_at "bf steps"
  rename_i h3 F3 N3
  refine wpAny_call ?_
  refine loadi_spec (h₀ := h₀) (bits := bits) (nh := nh) (O.fr hg0 F3) (hr.down 3).deeper he he2 hb hb2 hn hn0 (At.ofNews hg0 N3 (.head _)) (At.ofNews hg0 N3 (.tail _ (.head _))) ?_
  intro l h4 tk4 M4 hnew B4
  dsimp only
  have F4 := fr_mod F3 M4 (by simpa using (N3 _ (.head _)).2.1.symm) (by simpa using (N3 _ (.head _)).2.2)
  clear N3
  walk_at "bf steps"
  refine ret l h4 _ (fun b o hb' e => ?_) ?_ B4
  · have hb2 : b ≠ x := by simpa using hb'
    by_cases q : b = dx
    · subst q
      rw [hd.1] at e; cases e
      obtain ⟨_, _, _, _, _, _, _, _, _, _, _, _, q2, _⟩ := B4
      exact q2.1
    · exact F4.keep _ _ (hg2 b o (by simpa using ⟨hb2, q⟩) e)
  · cases q : s.heap.get? l with
    | none => rfl
    | some o =>
      exfalso
      have k1 : l ≠ x := fun e => by
        obtain ⟨_, _, _, _, _, _, _, _, _, _, _, q1, _, q3, _⟩ := B4
        exact At.clash q1 (e ▸ q3)
      have k2 : l ≠ dx := fun e => by
        obtain ⟨_, _, _, _, _, _, _, _, _, _, _, _, q2, q3, _⟩ := B4
        exact At.clash q2 (e ▸ q3)
      have := F3.keep _ _ (hg2 l o (by simpa using ⟨k1, k2⟩) q)
      rw [hnew] at this
      cases this
theorem new_kw {w : World} {A : Around} {R : Result → Shared → Prop} {s : Shared} {h₀ : Heap} {f : Addr} {est bits nh : Nat} {a1 a2 : Tok}
    (O : On w h₀ s.heap) (hr : Room A 13) (he : 0 < est) (he2 : est < 1000) (hb : 0 < bits) (hb2 : bits < 1000)
    (hn : ((13862943611198906 * (bits : Int)).fdiv est + 10 ^ Int.toNat 16).fdiv (2 * 10 ^ Int.toNat 16) = (nh : Int)) (hn0 : 0 < nh)
    (ret : ∀ x dx l h' tk', Mod [] s.heap h' → s.heap.get? x = none → s.heap.get? dx = none → s.heap.get? l = none → IsBloom ⟨bits, est, nh, (bits + 7) / 8, .ref f⟩ h₀ h' x dx l 0 (fun _ => false) → R (.ok (.ret (.ref x))) { s with heap := h', toks := tk' }) :
    codeAny (model PySem.Challenge.rw_sv0019_01.row.prog w) A (.call (.ref 325) ⟨[], [(Str.ofString "est_elements", .int est a1), (Str.ofString "false_positive_rate", .int bits a2), (Str.ofString "hash_function", .ref f)]⟩) R s := by
  have XS : (hd1.heap_39 w.params).In s.heap := O.wd.1.keeps O.stays
  refine' make_raw XS ?k1 ?k2 ?k3 ?_
  case k1 => k_is
  case k2 => k_is
  case k3 => k_is
  intro x dx h1 M1 hx hd nx nd
  have n0 : ∀ a, s.heap.get? a = none → h₀.get? a = none := fun a e => by
    cases q : h₀.get? a with
    | none => rfl
    | some o => rw [O.stays _ _ q] at e; cases e
  refine init_kw (h₀ := h₀) (bits := bits) (nh := nh) (O.mod M1 (fun _ h => nomatch h)) (hr.under) he he2 hb hb2 hn hn0 ⟨hx, n0 _ nx⟩ ⟨hd, n0 _ nd⟩ ?_
  intro l h2 tk2 M2 nl B2
  refine ⟨rfl, ret x dx l h2 tk2 (fun b o _ e => M2 b o (by simpa using ne_new e nx) (M1 b o (by simp) e)) nx nd ?_ B2⟩
  cases q : s.heap.get? l with
  | none => rfl
  | some o => have := M1 _ _ (by simp) q; rw [nl] at this; cases this
end
section
theorem init_pos {w : World} {A : Around} {R : Result → Shared → Prop} {s : Shared} {h₀ : Heap} {x dx f : Addr} {est bits nh : Nat} {a1 a2 : Tok}
    (O : On w h₀ s.heap) (hr : Room A 12) (he : 0 < est) (he2 : est < 1000) (hb : 0 < bits) (hb2 : bits < 1000)
    (hn : ((13862943611198906 * (bits : Int)).fdiv est + 10 ^ Int.toNat 16).fdiv (2 * 10 ^ Int.toNat 16) = (nh : Int)) (hn0 : 0 < nh)
    (hx : At h₀ s.heap x (instObj 325 dx)) (hd : At h₀ s.heap dx (dictOf [] 0))
    (ret : ∀ l h' tk', Mod [x] s.heap h' → s.heap.get? l = none → IsBloom ⟨bits, est, nh, (bits + 7) / 8, .ref f⟩ h₀ h' x dx l 0 (fun _ => false) → R (.ok (.ret .none)) { s with heap := h', toks := tk' }) :
    codeAny (model PySem.Challenge.rw_sv0019_01.row.prog w) A (.call (.ref 124) ⟨[.ref x, .int est a1, .int bits a2], [(Str.ofString "hash_function", .ref f)]⟩) R s := by
  obtain ⟨hd0, dp0, fr0, gd0, un0⟩ := A
  obtain rfl : hd0 = none := hr.hd
  have n2 := neN (fun e : x = dx => At.clash hx (e ▸ hd))
  have XS : (hd1.heap_39 w.params).In s.heap := O.wd.1.keeps O.stays
  have Al : AllAt h₀ s.heap [(x, instObj 325 dx), (dx, dictOf [] 0)] := List.forall_mem_cons.mpr ⟨hx, List.forall_mem_cons.mpr ⟨hd, List.forall_mem_nil _⟩⟩
  walk_at "bf enter"
  intro g L' h₁ p₁ loose mean mg mb hg0 hg2 F N X T
  (try dsimp only); (try k_fold)
  walk_at "bf steps"
  rename_i h3 F3 N3
  refine wpAny_call ?_
  refine loadi_spec (h₀ := h₀) (bits := bits) (nh := nh) (O.fr hg0 F3) (hr.down 3).deeper he he2 hb hb2 hn hn0 (At.ofNews hg0 N3 (.head _)) (At.ofNews hg0 N3 (.tail _ (.head _))) ?_
  intro l h4 tk4 M4 hnew B4
  dsimp only
  have F4 := fr_mod F3 M4 (by simpa using (N3 _ (.head _)).2.1.symm) (by simpa using (N3 _ (.head _)).2.2)
  clear N3
  walk_at "bf steps"
  refine ret l h4 _ (fun b o hb' e => ?_) ?_ B4
  · have hb2 : b ≠ x := by simpa using hb'
    by_cases q : b = dx
    · subst q
      rw [hd.1] at e; cases e
      obtain ⟨_, _, _, _, _, _, _, _, _, _, _, _, q2, _⟩ := B4
      exact q2.1
    · exact F4.keep _ _ (hg2 b o (by simpa using ⟨hb2, q⟩) e)
  · cases q : s.heap.get? l with
    | none => rfl
    | some o =>
      exfalso
      have k1 : l ≠ x := fun e => by
        obtain ⟨_, _, _, _, _, _, _, _, _, _, _, q1, _, q3, _⟩ := B4
        exact At.clash q1 (e ▸ q3)
      have k2 : l ≠ dx := fun e => by
        obtain ⟨_, _, _, _, _, _, _, _, _, _, _, _, q2, q3, _⟩ := B4
        exact At.clash q2 (e ▸ q3)
      have := F3.keep _ _ (hg2 l o (by simpa using ⟨k1, k2⟩) q)
      rw [hnew] at this
      cases this
theorem new_pos {w : World} {A : Around} {R : Result → Shared → Prop} {s : Shared} {h₀ : Heap} {f : Addr} {est bits nh : Nat} {a1 a2 : Tok}
    (O : On w h₀ s.heap) (hr : Room A 13) (he : 0 < est) (he2 : est < 1000) (hb : 0 < bits) (hb2 : bits < 1000)
    (hn : ((13862943611198906 * (bits : Int)).fdiv est + 10 ^ Int.toNat 16).fdiv (2 * 10 ^ Int.toNat 16) = (nh : Int)) (hn0 : 0 < nh)
    (ret : ∀ x dx l h' tk', Mod [] s.heap h' → s.heap.get? x = none → s.heap.get? dx = none → s.heap.get? l = none → IsBloom ⟨bits, est, nh, (bits + 7) / 8, .ref f⟩ h₀ h' x dx l 0 (fun _ => false) → R (.ok (.ret (.ref x))) { s with heap := h', toks := tk' }) :
    codeAny (model PySem.Challenge.rw_sv0019_01.row.prog w) A (.call (.ref 325) ⟨[.int est a1, .int bits a2], [(Str.ofString "hash_function", .ref f)]⟩) R s := by
  have XS : (hd1.heap_39 w.params).In s.heap := O.wd.1.keeps O.stays
  refine' make_raw XS ?k1 ?k2 ?k3 ?_
  case k1 => k_is
  case k2 => k_is
  case k3 => k_is
  intro x dx h1 M1 hx hd nx nd
  have n0 : ∀ a, s.heap.get? a = none → h₀.get? a = none := fun a e => by
    cases q : h₀.get? a with
    | none => rfl
    | some o => rw [O.stays _ _ q] at e; cases e
  refine init_pos (h₀ := h₀) (bits := bits) (nh := nh) (O.mod M1 (fun _ h => nomatch h)) (hr.under) he he2 hb hb2 hn hn0 ⟨hx, n0 _ nx⟩ ⟨hd, n0 _ nd⟩ ?_
  intro l h2 tk2 M2 nl B2
  refine ⟨rfl, ret x dx l h2 tk2 (fun b o _ e => M2 b o (by simpa using ne_new e nx) (M1 b o (by simp) e)) nx nd ?_ B2⟩
  cases q : s.heap.get? l with
  | none => rfl
  | some o => have := M1 _ _ (by simp) q; rw [nl] at this; cases this
end
section
theorem checkalt_exp {w : World} {A : Around} {R : Result → Shared → Prop} {s : Shared} {h₀ : Heap} {D : BD} {e de L hl : Addr} {added q : Int} {t1 t2 t3 t4 : Tok} {n : Nat}
    {bs : List BH} {hs : List Int}
    (O : On w h₀ s.heap) (hr : Room A 20) (ok : D.Ok) (he : At h₀ s.heap e (expO de L D.hf D.est D.bits added t1 t2 t3)) (hd : At h₀ s.heap de (dictOf [] 0)) (hL : At h₀ s.heap L (listO (refs bs) n)) (B : IsBlooms D h₀ s.heap bs)
    (I : IsInts h₀ s.heap hl hs) (hnh : D.nh ≤ hs.length) (TB : Tab h₀ s.heap)
    (ret : ∀ s', Aft [418] s s' → Tab h₀ s'.heap → R (.ok (.ret (.bool (bs.any (BH.has D hs))))) s') :
    codeAny (model PySem.Challenge.rw_sv0019_01.row.prog w) A (.call (.ref 423) ⟨[.ref e, .ref hl], []⟩) R s := by
  obtain ⟨hd0, dp0, fr0, gd0, un0⟩ := A
  obtain rfl : hd0 = none := hr.hd
  have n2 := neN (fun q : e = de => At.clash he (q ▸ hd))
  have n3 := neN (fun q : e = L => At.clash he (q ▸ hL))
  have n4 := neN (fun q : de = L => At.clash hd (q ▸ hL))
  have XS : (hd1.heap_39 w.params).In s.heap := O.wd.1.keeps O.stays
  obtain ⟨tb, hT, hTb⟩ := TB
  have n5 := neN (fun q : e = 418 => At.clash he (q ▸ hT))
  have n6 := neN (fun q : de = 418 => At.clash hd (q ▸ hT))
  have n7 := neN (fun q : L = 418 => At.clash hL (q ▸ hT))
  have Al : AllAt h₀ s.heap [(418, tabObj tb), (e, expO de L D.hf D.est D.bits added t1 t2 t3), (de, dictOf [] 0), (L, listO (refs bs) n)] :=
    List.forall_mem_cons.mpr ⟨hT, List.forall_mem_cons.mpr ⟨he, List.forall_mem_cons.mpr ⟨hd, List.forall_mem_cons.mpr ⟨hL, List.forall_mem_nil _⟩⟩⟩⟩
  refine' enterC _ O Al ?ho ?hcd ?hroom ?hbind ?hkind ?hnd ?_ ?c1 ?c2 ?c3
  case ho => k_is
  case hcd => k_is
  case hroom => exact hr.lt
  case hbind => exact BindsTo.of_eq rfl
  case hkind => exact rfl
  case hnd => decide +kernel
  case c1 => exact rfl
  case c2 => exact rfl
  case c3 => exact rfl
  intro g L' h₁ tk cells p₁ loose mean mg mb hg0 hg2 hk1 F N Y lL sL X T
  k_cells Y
  (try simp only [List.cons_append, List.nil_append] at N)
  (try dsimp only); (try k_fold)
  walk_at "bf steps"
  rename_i oc dc
  have cell1 : h₁.IsCell (L' + 1) (some (.ref hl)) := ⟨oc, (N _ (.head _)).1, dc⟩
  obtain ⟨bm, ob, b1, b2, b3, b4, b5, b6⟩ := T.bmain
  have n0 : ∀ b o, h₀.get? b = some o → b ≠ 418 := fun b o q e' => by rw [e', hT.2] at q; cases q
  have k01 : ∀ b o, h₀.get? b = some o → h₁.get? b = some o := fun b o q => hk1 b o (O.stays b o q)
  have c418 : L' + 1 ≠ 418 := fun q => by
    have := (N _ (.head _)).1
    rw [q, (N _ (.tail _ (.head _))).1] at this
    cases this
    cases dc
  refine gen_any (c := 422) (P := 418) (l := L) (ps := tb) (vs := refs bs) (bm := bm) (ob := ob) (mg := mg) (cl := [(Str.ofString "hashes", L' + 1)])
    (tr := fun i => (bs[i]?.map (BH.has D hs)).getD false)
    rfl rfl rfl (by decide) rfl rfl rfl hr.deeper.lt rfl rfl hTb ?_ (fun _ => rfl)
  (walk1; try dsimp only)
  (walk1; try dsimp only)
  (walk1; try dsimp only)
  refine ⟨rfl, News.isList N (.tail _ (.tail _ (.tail _ (.tail _ (.head _))))), T.nolimit.keeps F.keep, ?_, (N _ (.tail _ (.head _))).1, ⟨T.g.keeps F.keep, b1, b2, F.keep _ _ b3, b4, b5, b6⟩, ?_, ?_⟩
  · exact (codeHd_of_K (c := 422) (P := 418) X (by kernel_rfl)).keeps F.keep
  · intro C code A' E' i v t m₂ hA hD hU hv hn hm _ hk
    have Ot : On w h₀ t.heap := ⟨O.wd, fun b o q => hk b o (n0 b o q) (k01 b o q)⟩
    have Xt := O.wd.1.keeps Ot.stays
    rw [List.getElem?_map] at hv
    obtain ⟨b, hb, rfl⟩ := Option.map_eq_some_iff.mp hv
    have Bb := B b (List.mem_of_getElem? hb)
    obtain ⟨v1, v2, v3, v4, v5, v6, v7, v8, bsv, bsi, nn, q1, q2, q3, q4, q5⟩ := id Bb
    have M1 : Mod [418] s.heap t.heap := fun a o ha q => hk a o (by simpa using ha) (hk1 a o q)
    have o1 : ∀ a o, At h₀ s.heap a o → (Kind o == Kind (tabObj tb)) = false → a ∉ [418] := fun a o ha hq hm' => by
      have e1 : a = 418 := by simpa using hm'
      exact At.clash (e1 ▸ ha) hT hq
    have Bt := Bb.mod M1 (o1 _ _ q1 rfl) (o1 _ _ q2 rfl) (o1 _ _ q3 rfl)
    have It := I.mod M1 (by
      obtain ⟨vs, k, z, _⟩ := I
      exact o1 _ _ z rfl)
    refine methodCall_KW ?_
    refine wpAny_Name (wpAny_loadName_local rfl rfl hn hm ?_)
    refine method_fn (K := hd1.heap_39 w.params) (C := 325) (f := 262) (od := some (dictOf [] 0)) Xt ⟨M1 _ _ (o1 _ _ q1 rfl) q1.1, rfl, rfl, M1 _ _ (o1 _ _ q2 rfl) q2.1⟩ ?y1 ?y2 ?y3 ?y4 rfl ?_
    case y1 => k_is
    case y2 => k_is
    case y3 => k_is
    case y4 => k_is
    refine callWith_K (K := hd1.heap_39 w.params) (h₀ := t.heap) Xt ?y5 ?_
    case y5 => k_is
    refine args_cons ?_
    refine wpAny_Name (wpAny_loadName_free rfl rfl rfl (v := .ref hl) (c := L' + 1) ?_ ?_)
    · obtain ⟨o9, p9, r9⟩ := cell1
      exact ⟨o9, hk _ _ c418 p9, r9⟩
    refine args_nil ⟨Xt, ?_⟩
    refine wpAny_call ?_
    refine check_alt_spec (h₀ := h₀) Ot ⟨hA, ?_, ?_⟩ ok Bt It hnh ?_
    · have h1 := hr.depth
      have h2 : A'.depth ≤ dp0 + 1 + 1 := hD
      have h3 : dp0 + 20 < recursionLimit := h1
      omega
    · have h1 := hr.units
      have h2 : A'.units ≤ un0 + 3 + 8 := hU
      have h3 : un0 + 10 * 20 < cLine := h1
      omega
    · intro h' tk' M'
      refine ⟨?_, h', tk', rfl, fun a o q => M' a o (by simp) q⟩
      rw [hb]
      rfl
  · intro a s₅ hany
    (walk1; try dsimp only)
    refine hany _ _ fun s' A9 T9 => ?_
    have e9 := any_range_get bs (BH.has D hs)
    rw [show (refs bs).length = bs.length from List.length_map ..] at *
    rw [e9]
    refine ret s' ⟨fun b o hb q => A9.mod b o hb (hk1 b o q), A9.drawn, A9.os, A9.gens⟩ ?_
    obtain ⟨ps', p1, p2⟩ := T9
    exact ⟨ps', ⟨p1, hT.2⟩, p2⟩
theorem checkalt_rot {w : World} {A : Around} {R : Result → Shared → Prop} {s : Shared} {h₀ : Heap} {D : BD} {e de L hl : Addr} {added q : Int} {t1 t2 t3 t4 : Tok} {n : Nat}
    {bs : List BH} {hs : List Int}
    (O : On w h₀ s.heap) (hr : Room A 20) (ok : D.Ok) (he : At h₀ s.heap e (rotO de L D.hf D.est D.bits added q t1 t2 t3 t4)) (hd : At h₀ s.heap de (dictOf [] 0)) (hL : At h₀ s.heap L (listO (refs bs) n)) (B : IsBlooms D h₀ s.heap bs)
    (I : IsInts h₀ s.heap hl hs) (hnh : D.nh ≤ hs.length) (TB : Tab h₀ s.heap)
    (ret : ∀ s', Aft [418] s s' → Tab h₀ s'.heap → R (.ok (.ret (.bool (bs.any (BH.has D hs))))) s') :
    codeAny (model PySem.Challenge.rw_sv0019_01.row.prog w) A (.call (.ref 423) ⟨[.ref e, .ref hl], []⟩) R s := by
  obtain ⟨hd0, dp0, fr0, gd0, un0⟩ := A
  obtain rfl : hd0 = none := hr.hd
  have n2 := neN (fun q : e = de => At.clash he (q ▸ hd))
  have n3 := neN (fun q : e = L => At.clash he (q ▸ hL))
  have n4 := neN (fun q : de = L => At.clash hd (q ▸ hL))
  have XS : (hd1.heap_39 w.params).In s.heap := O.wd.1.keeps O.stays
  obtain ⟨tb, hT, hTb⟩ := TB
  have n5 := neN (fun q : e = 418 => At.clash he (q ▸ hT))
  have n6 := neN (fun q : de = 418 => At.clash hd (q ▸ hT))
  have n7 := neN (fun q : L = 418 => At.clash hL (q ▸ hT))
  have Al : AllAt h₀ s.heap [(418, tabObj tb), (e, rotO de L D.hf D.est D.bits added q t1 t2 t3 t4), (de, dictOf [] 0), (L, listO (refs bs) n)] :=
    List.forall_mem_cons.mpr ⟨hT, List.forall_mem_cons.mpr ⟨he, List.forall_mem_cons.mpr ⟨hd, List.forall_mem_cons.mpr ⟨hL, List.forall_mem_nil _⟩⟩⟩⟩
  refine' enterC _ O Al ?ho ?hcd ?hroom ?hbind ?hkind ?hnd ?_ ?c1 ?c2 ?c3
  case ho => k_is
  case hcd => k_is
  case hroom => exact hr.lt
  case hbind => exact BindsTo.of_eq rfl
  case hkind => exact rfl
  case hnd => decide +kernel
  case c1 => exact rfl
  case c2 => exact rfl
  case c3 => exact rfl
  intro g L' h₁ tk cells p₁ loose mean mg mb hg0 hg2 hk1 F N Y lL sL X T
  k_cells Y
  (try simp only [List.cons_append, List.nil_append] at N)
  (try dsimp only); (try k_fold)
  walk_at "bf steps"
  rename_i oc dc
  have cell1 : h₁.IsCell (L' + 1) (some (.ref hl)) := ⟨oc, (N _ (.head _)).1, dc⟩
  obtain ⟨bm, ob, b1, b2, b3, b4, b5, b6⟩ := T.bmain
  have n0 : ∀ b o, h₀.get? b = some o → b ≠ 418 := fun b o q e' => by rw [e', hT.2] at q; cases q
  have k01 : ∀ b o, h₀.get? b = some o → h₁.get? b = some o := fun b o q => hk1 b o (O.stays b o q)
  have c418 : L' + 1 ≠ 418 := fun q => by
    have := (N _ (.head _)).1
    rw [q, (N _ (.tail _ (.head _))).1] at this
    cases this
    cases dc
  refine gen_any (c := 422) (P := 418) (l := L) (ps := tb) (vs := refs bs) (bm := bm) (ob := ob) (mg := mg) (cl := [(Str.ofString "hashes", L' + 1)])
    (tr := fun i => (bs[i]?.map (BH.has D hs)).getD false)
    rfl rfl rfl (by decide) rfl rfl rfl hr.deeper.lt rfl rfl hTb ?_ (fun _ => rfl)
  (walk1; try dsimp only)
  (walk1; try dsimp only)
  (walk1; try dsimp only)
  refine ⟨rfl, News.isList N (.tail _ (.tail _ (.tail _ (.tail _ (.head _))))), T.nolimit.keeps F.keep, ?_, (N _ (.tail _ (.head _))).1, ⟨T.g.keeps F.keep, b1, b2, F.keep _ _ b3, b4, b5, b6⟩, ?_, ?_⟩
  · exact (codeHd_of_K (c := 422) (P := 418) X (by kernel_rfl)).keeps F.keep
  · intro C code A' E' i v t m₂ hA hD hU hv hn hm _ hk
    have Ot : On w h₀ t.heap := ⟨O.wd, fun b o q => hk b o (n0 b o q) (k01 b o q)⟩
    have Xt := O.wd.1.keeps Ot.stays
    rw [List.getElem?_map] at hv
    obtain ⟨b, hb, rfl⟩ := Option.map_eq_some_iff.mp hv
    have Bb := B b (List.mem_of_getElem? hb)
    obtain ⟨v1, v2, v3, v4, v5, v6, v7, v8, bsv, bsi, nn, q1, q2, q3, q4, q5⟩ := id Bb
    have M1 : Mod [418] s.heap t.heap := fun a o ha q => hk a o (by simpa using ha) (hk1 a o q)
    have o1 : ∀ a o, At h₀ s.heap a o → (Kind o == Kind (tabObj tb)) = false → a ∉ [418] := fun a o ha hq hm' => by
      have e1 : a = 418 := by simpa using hm'
      exact At.clash (e1 ▸ ha) hT hq
    have Bt := Bb.mod M1 (o1 _ _ q1 rfl) (o1 _ _ q2 rfl) (o1 _ _ q3 rfl)
    have It := I.mod M1 (by
      obtain ⟨vs, k, z, _⟩ := I
      exact o1 _ _ z rfl)
    refine methodCall_KW ?_
    refine wpAny_Name (wpAny_loadName_local rfl rfl hn hm ?_)
    refine method_fn (K := hd1.heap_39 w.params) (C := 325) (f := 262) (od := some (dictOf [] 0)) Xt ⟨M1 _ _ (o1 _ _ q1 rfl) q1.1, rfl, rfl, M1 _ _ (o1 _ _ q2 rfl) q2.1⟩ ?y1 ?y2 ?y3 ?y4 rfl ?_
    case y1 => k_is
    case y2 => k_is
    case y3 => k_is
    case y4 => k_is
    refine callWith_K (K := hd1.heap_39 w.params) (h₀ := t.heap) Xt ?y5 ?_
    case y5 => k_is
    refine args_cons ?_
    refine wpAny_Name (wpAny_loadName_free rfl rfl rfl (v := .ref hl) (c := L' + 1) ?_ ?_)
    · obtain ⟨o9, p9, r9⟩ := cell1
      exact ⟨o9, hk _ _ c418 p9, r9⟩
    refine args_nil ⟨Xt, ?_⟩
    refine wpAny_call ?_
    refine check_alt_spec (h₀ := h₀) Ot ⟨hA, ?_, ?_⟩ ok Bt It hnh ?_
    · have h1 := hr.depth
      have h2 : A'.depth ≤ dp0 + 1 + 1 := hD
      have h3 : dp0 + 20 < recursionLimit := h1
      omega
    · have h1 := hr.units
      have h2 : A'.units ≤ un0 + 3 + 8 := hU
      have h3 : un0 + 10 * 20 < cLine := h1
      omega
    · intro h' tk' M'
      refine ⟨?_, h', tk', rfl, fun a o q => M' a o (by simp) q⟩
      rw [hb]
      rfl
  · intro a s₅ hany
    (walk1; try dsimp only)
    refine hany _ _ fun s' A9 T9 => ?_
    have e9 := any_range_get bs (BH.has D hs)
    rw [show (refs bs).length = bs.length from List.length_map ..] at *
    rw [e9]
    refine ret s' ⟨fun b o hb q => A9.mod b o hb (hk1 b o q), A9.drawn, A9.os, A9.gens⟩ ?_
    obtain ⟨ps', p1, p2⟩ := T9
    exact ⟨ps', ⟨p1, hT.2⟩, p2⟩
end
section
theorem prop_bl_added {w : World} {A : Around} {E : Value → Shared → Prop} {Q : Value → Shared → Prop} {s : Shared} {h₀ : Heap} {e de L : Addr} {hf : Value} {blen cnt est bits nh : Int} {t1 t2 t3 t4 t5 t6 t7 t8 : Tok} {b : Bool} 
    (O : On w h₀ s.heap) (hr : Room A 6) (he : At h₀ s.heap e (bloomO de L hf blen cnt est bits nh t1 t2 t3 t4 t5 t6 t7 t8)) (hd : At h₀ s.heap de (dictOf [] 0)) 
    (ret : ∀ h' tk', Mod [] s.heap h' → Q (.int cnt t2) { s with heap := h', toks := tk' }) :
    wpAny (model PySem.Challenge.rw_sv0019_01.row.prog w) A (getAttr (.ref e) (Str.ofString "elements_added") b) Q E s := by
  obtain ⟨hd0, dp0, fr0, gd0, un0⟩ := A
  obtain rfl : hd0 = none := hr.hd
  have n2 := neN (fun q : e = de => At.clash he (q ▸ hd))
  have XS : (hd1.heap_39 w.params).In s.heap := O.wd.1.keeps O.stays
  refine' prop_slot (K := hd1.heap_39 w.params) (C := 325) (ox := bloomO de L hf blen cnt est bits nh t1 t2 t3 t4 t5 t6 t7 t8) (o := dictOf [] 0) XS ⟨he.1, rfl, rfl, hd.1⟩ ?g ?c ?a ?nn ?t ?p ?_
  case g => k_is
  case c => k_is
  case a => k_is
  case nn => k_is
  case t => k_is
  case p => k_is
  have O' : On w h₀ ({ s with toks := s.toks + 1 } : Shared).heap := O
  have Al : AllAt h₀ ({ s with toks := s.toks + 1 } : Shared).heap [(e, bloomO de L hf blen cnt est bits nh t1 t2 t3 t4 t5 t6 t7 t8), (de, dictOf [] 0)] := List.forall_mem_cons.mpr ⟨he, List.forall_mem_cons.mpr ⟨hd, List.forall_mem_nil _⟩⟩
  have hr1 : Room (Around.in1 ⟨none, dp0, fr0, gd0, un0⟩) 5 := hr.in1
  walk_at "bf enter"
  intro g L' h₁ p₁ loose mean mg mb hg0 hg2 F N X T
  (try dsimp only); (try k_fold)
  walk_at "bf steps"
  exact ret _ _ (mod_of [] hg2 F N Al (fun p hp _ => hp))
theorem prop_bl_est {w : World} {A : Around} {E : Value → Shared → Prop} {Q : Value → Shared → Prop} {s : Shared} {h₀ : Heap} {e de L : Addr} {hf : Value} {blen cnt est bits nh : Int} {t1 t2 t3 t4 t5 t6 t7 t8 : Tok} {b : Bool} 
    (O : On w h₀ s.heap) (hr : Room A 6) (he : At h₀ s.heap e (bloomO de L hf blen cnt est bits nh t1 t2 t3 t4 t5 t6 t7 t8)) (hd : At h₀ s.heap de (dictOf [] 0)) 
    (ret : ∀ h' tk', Mod [] s.heap h' → Q (.int est t3) { s with heap := h', toks := tk' }) :
    wpAny (model PySem.Challenge.rw_sv0019_01.row.prog w) A (getAttr (.ref e) (Str.ofString "estimated_elements") b) Q E s := by
  obtain ⟨hd0, dp0, fr0, gd0, un0⟩ := A
  obtain rfl : hd0 = none := hr.hd
  have n2 := neN (fun q : e = de => At.clash he (q ▸ hd))
  have XS : (hd1.heap_39 w.params).In s.heap := O.wd.1.keeps O.stays
  refine' prop_slot (K := hd1.heap_39 w.params) (C := 325) (ox := bloomO de L hf blen cnt est bits nh t1 t2 t3 t4 t5 t6 t7 t8) (o := dictOf [] 0) XS ⟨he.1, rfl, rfl, hd.1⟩ ?g ?c ?a ?nn ?t ?p ?_
  case g => k_is
  case c => k_is
  case a => k_is
  case nn => k_is
  case t => k_is
  case p => k_is
  have O' : On w h₀ ({ s with toks := s.toks + 1 } : Shared).heap := O
  have Al : AllAt h₀ ({ s with toks := s.toks + 1 } : Shared).heap [(e, bloomO de L hf blen cnt est bits nh t1 t2 t3 t4 t5 t6 t7 t8), (de, dictOf [] 0)] := List.forall_mem_cons.mpr ⟨he, List.forall_mem_cons.mpr ⟨hd, List.forall_mem_nil _⟩⟩
  have hr1 : Room (Around.in1 ⟨none, dp0, fr0, gd0, un0⟩) 5 := hr.in1
  walk_at "bf enter"
  intro g L' h₁ p₁ loose mean mg mb hg0 hg2 F N X T
  (try dsimp only); (try k_fold)
  walk_at "bf steps"
  exact ret _ _ (mod_of [] hg2 F N Al (fun p hp _ => hp))
theorem prop_rot_est {w : World} {A : Around} {E : Value → Shared → Prop} {Q : Value → Shared → Prop} {s : Shared} {h₀ : Heap} {e de L : Addr} {hf : Value} {est bits added q : Int} {t1 t2 t3 t4 : Tok} {b : Bool} 
    (O : On w h₀ s.heap) (hr : Room A 6) (he : At h₀ s.heap e (rotO de L hf est bits added q t1 t2 t3 t4)) (hd : At h₀ s.heap de (dictOf [] 0)) 
    (ret : ∀ h' tk', Mod [] s.heap h' → Q (.int est t1) { s with heap := h', toks := tk' }) :
    wpAny (model PySem.Challenge.rw_sv0019_01.row.prog w) A (getAttr (.ref e) (Str.ofString "estimated_elements") b) Q E s := by
  obtain ⟨hd0, dp0, fr0, gd0, un0⟩ := A
  obtain rfl : hd0 = none := hr.hd
  have n2 := neN (fun q : e = de => At.clash he (q ▸ hd))
  have XS : (hd1.heap_39 w.params).In s.heap := O.wd.1.keeps O.stays
  refine' prop_slot (K := hd1.heap_39 w.params) (C := 539) (ox := rotO de L hf est bits added q t1 t2 t3 t4) (o := dictOf [] 0) XS ⟨he.1, rfl, rfl, hd.1⟩ ?g ?c ?a ?nn ?t ?p ?_
  case g => k_is
  case c => k_is
  case a => k_is
  case nn => k_is
  case t => k_is
  case p => k_is
  have O' : On w h₀ ({ s with toks := s.toks + 1 } : Shared).heap := O
  have Al : AllAt h₀ ({ s with toks := s.toks + 1 } : Shared).heap [(e, rotO de L hf est bits added q t1 t2 t3 t4), (de, dictOf [] 0)] := List.forall_mem_cons.mpr ⟨he, List.forall_mem_cons.mpr ⟨hd, List.forall_mem_nil _⟩⟩
  have hr1 : Room (Around.in1 ⟨none, dp0, fr0, gd0, un0⟩) 5 := hr.in1
  walk_at "bf enter"
  intro g L' h₁ p₁ loose mean mg mb hg0 hg2 F N X T
  (try dsimp only); (try k_fold)
  walk_at "bf steps"
  exact ret _ _ (mod_of [] hg2 F N Al (fun p hp _ => hp))
theorem prop_rot_fpr {w : World} {A : Around} {E : Value → Shared → Prop} {Q : Value → Shared → Prop} {s : Shared} {h₀ : Heap} {e de L : Addr} {hf : Value} {est bits added q : Int} {t1 t2 t3 t4 : Tok} {b : Bool} 
    (O : On w h₀ s.heap) (hr : Room A 6) (he : At h₀ s.heap e (rotO de L hf est bits added q t1 t2 t3 t4)) (hd : At h₀ s.heap de (dictOf [] 0)) 
    (ret : ∀ h' tk', Mod [] s.heap h' → Q (.int bits t2) { s with heap := h', toks := tk' }) :
    wpAny (model PySem.Challenge.rw_sv0019_01.row.prog w) A (getAttr (.ref e) (Str.ofString "false_positive_rate") b) Q E s := by
  obtain ⟨hd0, dp0, fr0, gd0, un0⟩ := A
  obtain rfl : hd0 = none := hr.hd
  have n2 := neN (fun q : e = de => At.clash he (q ▸ hd))
  have XS : (hd1.heap_39 w.params).In s.heap := O.wd.1.keeps O.stays
  refine' prop_slot (K := hd1.heap_39 w.params) (C := 539) (ox := rotO de L hf est bits added q t1 t2 t3 t4) (o := dictOf [] 0) XS ⟨he.1, rfl, rfl, hd.1⟩ ?g ?c ?a ?nn ?t ?p ?_
  case g => k_is
  case c => k_is
  case a => k_is
  case nn => k_is
  case t => k_is
  case p => k_is
  have O' : On w h₀ ({ s with toks := s.toks + 1 } : Shared).heap := O
  have Al : AllAt h₀ ({ s with toks := s.toks + 1 } : Shared).heap [(e, rotO de L hf est bits added q t1 t2 t3 t4), (de, dictOf [] 0)] := List.forall_mem_cons.mpr ⟨he, List.forall_mem_cons.mpr ⟨hd, List.forall_mem_nil _⟩⟩
  have hr1 : Room (Around.in1 ⟨none, dp0, fr0, gd0, un0⟩) 5 := hr.in1
  walk_at "bf enter"
  intro g L' h₁ p₁ loose mean mg mb hg0 hg2 F N X T
  (try dsimp only); (try k_fold)
  walk_at "bf steps"
  exact ret _ _ (mod_of [] hg2 F N Al (fun p hp _ => hp))
theorem prop_rot_hash {w : World} {A : Around} {E : Value → Shared → Prop} {Q : Value → Shared → Prop} {s : Shared} {h₀ : Heap} {e de L f : Addr}  {est bits added q : Int} {t1 t2 t3 t4 : Tok} {b : Bool} 
    (O : On w h₀ s.heap) (hr : Room A 6) (he : At h₀ s.heap e (rotO de L (.ref f) est bits added q t1 t2 t3 t4)) (hd : At h₀ s.heap de (dictOf [] 0)) 
    (ret : ∀ h' tk', Mod [] s.heap h' → Q (.ref f) { s with heap := h', toks := tk' }) :
    wpAny (model PySem.Challenge.rw_sv0019_01.row.prog w) A (getAttr (.ref e) (Str.ofString "hash_function") b) Q E s := by
  obtain ⟨hd0, dp0, fr0, gd0, un0⟩ := A
  obtain rfl : hd0 = none := hr.hd
  have n2 := neN (fun q : e = de => At.clash he (q ▸ hd))
  have XS : (hd1.heap_39 w.params).In s.heap := O.wd.1.keeps O.stays
  refine' prop_slot (K := hd1.heap_39 w.params) (C := 539) (ox := rotO de L (.ref f) est bits added q t1 t2 t3 t4) (o := dictOf [] 0) XS ⟨he.1, rfl, rfl, hd.1⟩ ?g ?c ?a ?nn ?t ?p ?_
  case g => k_is
  case c => k_is
  case a => k_is
  case nn => k_is
  case t => k_is
  case p => k_is
  have O' : On w h₀ ({ s with toks := s.toks + 1 } : Shared).heap := O
  have Al : AllAt h₀ ({ s with toks := s.toks + 1 } : Shared).heap [(e, rotO de L (.ref f) est bits added q t1 t2 t3 t4), (de, dictOf [] 0)] := List.forall_mem_cons.mpr ⟨he, List.forall_mem_cons.mpr ⟨hd, List.forall_mem_nil _⟩⟩
  have hr1 : Room (Around.in1 ⟨none, dp0, fr0, gd0, un0⟩) 5 := hr.in1
  walk_at "bf enter"
  intro g L' h₁ p₁ loose mean mg mb hg0 hg2 F N X T
  (try dsimp only); (try k_fold)
  walk_at "bf steps"
  exact ret _ _ (mod_of [] hg2 F N Al (fun p hp _ => hp))
theorem prop_rot_added {w : World} {A : Around} {E : Value → Shared → Prop} {Q : Value → Shared → Prop} {s : Shared} {h₀ : Heap} {e de L : Addr} {hf : Value} {est bits added q : Int} {t1 t2 t3 t4 : Tok} {b : Bool} 
    (O : On w h₀ s.heap) (hr : Room A 6) (he : At h₀ s.heap e (rotO de L hf est bits added q t1 t2 t3 t4)) (hd : At h₀ s.heap de (dictOf [] 0)) 
    (ret : ∀ h' tk', Mod [] s.heap h' → Q (.int added t3) { s with heap := h', toks := tk' }) :
    wpAny (model PySem.Challenge.rw_sv0019_01.row.prog w) A (getAttr (.ref e) (Str.ofString "elements_added") b) Q E s := by
  obtain ⟨hd0, dp0, fr0, gd0, un0⟩ := A
  obtain rfl : hd0 = none := hr.hd
  have n2 := neN (fun q : e = de => At.clash he (q ▸ hd))
  have XS : (hd1.heap_39 w.params).In s.heap := O.wd.1.keeps O.stays
  refine' prop_slot (K := hd1.heap_39 w.params) (C := 539) (ox := rotO de L hf est bits added q t1 t2 t3 t4) (o := dictOf [] 0) XS ⟨he.1, rfl, rfl, hd.1⟩ ?g ?c ?a ?nn ?t ?p ?_
  case g => k_is
  case c => k_is
  case a => k_is
  case nn => k_is
  case t => k_is
  case p => k_is
  have O' : On w h₀ ({ s with toks := s.toks + 1 } : Shared).heap := O
  have Al : AllAt h₀ ({ s with toks := s.toks + 1 } : Shared).heap [(e, rotO de L hf est bits added q t1 t2 t3 t4), (de, dictOf [] 0)] := List.forall_mem_cons.mpr ⟨he, List.forall_mem_cons.mpr ⟨hd, List.forall_mem_nil _⟩⟩
  have hr1 : Room (Around.in1 ⟨none, dp0, fr0, gd0, un0⟩) 5 := hr.in1
  walk_at "bf enter"
  intro g L' h₁ p₁ loose mean mg mb hg0 hg2 F N X T
  (try dsimp only); (try k_fold)
  walk_at "bf steps"
  exact ret _ _ (mod_of [] hg2 F N Al (fun p hp _ => hp))
theorem prop_rot_max {w : World} {A : Around} {E : Value → Shared → Prop} {Q : Value → Shared → Prop} {s : Shared} {h₀ : Heap} {e de L : Addr} {hf : Value} {est bits added q : Int} {t1 t2 t3 t4 : Tok} {b : Bool} 
    (O : On w h₀ s.heap) (hr : Room A 6) (he : At h₀ s.heap e (rotO de L hf est bits added q t1 t2 t3 t4)) (hd : At h₀ s.heap de (dictOf [] 0)) 
    (ret : ∀ h' tk', Mod [] s.heap h' → Q (.int q t4) { s with heap := h', toks := tk' }) :
    wpAny (model PySem.Challenge.rw_sv0019_01.row.prog w) A (getAttr (.ref e) (Str.ofString "max_queue_size") b) Q E s := by
  obtain ⟨hd0, dp0, fr0, gd0, un0⟩ := A
  obtain rfl : hd0 = none := hr.hd
  have n2 := neN (fun q : e = de => At.clash he (q ▸ hd))
  have XS : (hd1.heap_39 w.params).In s.heap := O.wd.1.keeps O.stays
  refine' prop_slot (K := hd1.heap_39 w.params) (C := 539) (ox := rotO de L hf est bits added q t1 t2 t3 t4) (o := dictOf [] 0) XS ⟨he.1, rfl, rfl, hd.1⟩ ?g ?c ?a ?nn ?t ?p ?_
  case g => k_is
  case c => k_is
  case a => k_is
  case nn => k_is
  case t => k_is
  case p => k_is
  have O' : On w h₀ ({ s with toks := s.toks + 1 } : Shared).heap := O
  have Al : AllAt h₀ ({ s with toks := s.toks + 1 } : Shared).heap [(e, rotO de L hf est bits added q t1 t2 t3 t4), (de, dictOf [] 0)] := List.forall_mem_cons.mpr ⟨he, List.forall_mem_cons.mpr ⟨hd, List.forall_mem_nil _⟩⟩
  have hr1 : Room (Around.in1 ⟨none, dp0, fr0, gd0, un0⟩) 5 := hr.in1
  walk_at "bf enter"
  intro g L' h₁ p₁ loose mean mg mb hg0 hg2 F N X T
  (try dsimp only); (try k_fold)
  walk_at "bf steps"
  exact ret _ _ (mod_of [] hg2 F N Al (fun p hp _ => hp))
theorem prop_exp_est {w : World} {A : Around} {E : Value → Shared → Prop} {Q : Value → Shared → Prop} {s : Shared} {h₀ : Heap} {e de L : Addr} {hf : Value} {est bits added : Int} {t1 t2 t3 : Tok} {b : Bool} 
    (O : On w h₀ s.heap) (hr : Room A 6) (he : At h₀ s.heap e (expO de L hf est bits added t1 t2 t3)) (hd : At h₀ s.heap de (dictOf [] 0)) 
    (ret : ∀ h' tk', Mod [] s.heap h' → Q (.int est t1) { s with heap := h', toks := tk' }) :
    wpAny (model PySem.Challenge.rw_sv0019_01.row.prog w) A (getAttr (.ref e) (Str.ofString "estimated_elements") b) Q E s := by
  obtain ⟨hd0, dp0, fr0, gd0, un0⟩ := A
  obtain rfl : hd0 = none := hr.hd
  have n2 := neN (fun q : e = de => At.clash he (q ▸ hd))
  have XS : (hd1.heap_39 w.params).In s.heap := O.wd.1.keeps O.stays
  refine' prop_slot (K := hd1.heap_39 w.params) (C := 457) (ox := expO de L hf est bits added t1 t2 t3) (o := dictOf [] 0) XS ⟨he.1, rfl, rfl, hd.1⟩ ?g ?c ?a ?nn ?t ?p ?_
  case g => k_is
  case c => k_is
  case a => k_is
  case nn => k_is
  case t => k_is
  case p => k_is
  have O' : On w h₀ ({ s with toks := s.toks + 1 } : Shared).heap := O
  have Al : AllAt h₀ ({ s with toks := s.toks + 1 } : Shared).heap [(e, expO de L hf est bits added t1 t2 t3), (de, dictOf [] 0)] := List.forall_mem_cons.mpr ⟨he, List.forall_mem_cons.mpr ⟨hd, List.forall_mem_nil _⟩⟩
  have hr1 : Room (Around.in1 ⟨none, dp0, fr0, gd0, un0⟩) 5 := hr.in1
  walk_at "bf enter"
  intro g L' h₁ p₁ loose mean mg mb hg0 hg2 F N X T
  (try dsimp only); (try k_fold)
  walk_at "bf steps"
  exact ret _ _ (mod_of [] hg2 F N Al (fun p hp _ => hp))
theorem prop_exp_added {w : World} {A : Around} {E : Value → Shared → Prop} {Q : Value → Shared → Prop} {s : Shared} {h₀ : Heap} {e de L : Addr} {hf : Value} {est bits added : Int} {t1 t2 t3 : Tok} {b : Bool} 
    (O : On w h₀ s.heap) (hr : Room A 6) (he : At h₀ s.heap e (expO de L hf est bits added t1 t2 t3)) (hd : At h₀ s.heap de (dictOf [] 0)) 
    (ret : ∀ h' tk', Mod [] s.heap h' → Q (.int added t3) { s with heap := h', toks := tk' }) :
    wpAny (model PySem.Challenge.rw_sv0019_01.row.prog w) A (getAttr (.ref e) (Str.ofString "elements_added") b) Q E s := by
  obtain ⟨hd0, dp0, fr0, gd0, un0⟩ := A
  obtain rfl : hd0 = none := hr.hd
  have n2 := neN (fun q : e = de => At.clash he (q ▸ hd))
  have XS : (hd1.heap_39 w.params).In s.heap := O.wd.1.keeps O.stays
  refine' prop_slot (K := hd1.heap_39 w.params) (C := 457) (ox := expO de L hf est bits added t1 t2 t3) (o := dictOf [] 0) XS ⟨he.1, rfl, rfl, hd.1⟩ ?g ?c ?a ?nn ?t ?p ?_
  case g => k_is
  case c => k_is
  case a => k_is
  case nn => k_is
  case t => k_is
  case p => k_is
  have O' : On w h₀ ({ s with toks := s.toks + 1 } : Shared).heap := O
  have Al : AllAt h₀ ({ s with toks := s.toks + 1 } : Shared).heap [(e, expO de L hf est bits added t1 t2 t3), (de, dictOf [] 0)] := List.forall_mem_cons.mpr ⟨he, List.forall_mem_cons.mpr ⟨hd, List.forall_mem_nil _⟩⟩
  have hr1 : Room (Around.in1 ⟨none, dp0, fr0, gd0, un0⟩) 5 := hr.in1
  walk_at "bf enter"
  intro g L' h₁ p₁ loose mean mg mb hg0 hg2 F N X T
  (try dsimp only); (try k_fold)
  walk_at "bf steps"
  exact ret _ _ (mod_of [] hg2 F N Al (fun p hp _ => hp))
theorem prop_exp_len {w : World} {A : Around} {E : Value → Shared → Prop} {Q : Value → Shared → Prop} {s : Shared} {h₀ : Heap} {e de L : Addr} {hf : Value} {est bits added : Int} {t1 t2 t3 : Tok} {n : Nat} {bs : List BH} {b : Bool} 
    (O : On w h₀ s.heap) (hr : Room A 6) (he : At h₀ s.heap e (expO de L hf est bits added t1 t2 t3)) (hd : At h₀ s.heap de (dictOf [] 0)) (hL : At h₀ s.heap L (listO (refs bs) n)) (hsz : bs.length < 1000)
    (ret : ∀ t h' tk', Mod [] s.heap h' → Q (.int ((bs.length : Int) - 1) t) { s with heap := h', toks := tk' }) :
    wpAny (model PySem.Challenge.rw_sv0019_01.row.prog w) A (getAttr (.ref e) (Str.ofString "expansions") b) Q E s := by
  obtain ⟨hd0, dp0, fr0, gd0, un0⟩ := A
  obtain rfl : hd0 = none := hr.hd
  have n2 := neN (fun q : e = de => At.clash he (q ▸ hd))
  have n3 := neN (fun q : e = L => At.clash he (q ▸ hL))
  have n4 := neN (fun q : de = L => At.clash hd (q ▸ hL))
  have hsz2 : (refs bs).length < 1000 := by rw [List.length_map]; exact hsz
  have XS : (hd1.heap_39 w.params).In s.heap := O.wd.1.keeps O.stays
  refine' prop_slot (K := hd1.heap_39 w.params) (C := 457) (ox := expO de L hf est bits added t1 t2 t3) (o := dictOf [] 0) XS ⟨he.1, rfl, rfl, hd.1⟩ ?g ?c ?a ?nn ?t ?p ?_
  case g => k_is
  case c => k_is
  case a => k_is
  case nn => k_is
  case t => k_is
  case p => k_is
  have O' : On w h₀ ({ s with toks := s.toks + 1 } : Shared).heap := O
  have Al : AllAt h₀ ({ s with toks := s.toks + 1 } : Shared).heap [(e, expO de L hf est bits added t1 t2 t3), (de, dictOf [] 0), (L, listO (refs bs) n)] := List.forall_mem_cons.mpr ⟨he, List.forall_mem_cons.mpr ⟨hd, List.forall_mem_cons.mpr ⟨hL, List.forall_mem_nil _⟩⟩⟩
  have hr1 : Room (Around.in1 ⟨none, dp0, fr0, gd0, un0⟩) 5 := hr.in1
  walk_at "bf enter"
  intro g L' h₁ p₁ loose mean mg mb hg0 hg2 F N X T
  (try dsimp only); (try k_fold)
  walk_at "bf steps"
  have eL : ((refs bs).toArray.size : Int) = bs.length := by rw [List.size_toArray, List.length_map]
  rw [eL] at *
  exact ret _ _ _ (mod_of [] hg2 F N Al (fun p hp _ => hp))
theorem prop_rot_len {w : World} {A : Around} {E : Value → Shared → Prop} {Q : Value → Shared → Prop} {s : Shared} {h₀ : Heap} {e de L : Addr} {hf : Value} {est bits added q : Int} {t1 t2 t3 t4 : Tok} {n : Nat} {bs : List BH} {b : Bool} 
    (O : On w h₀ s.heap) (hr : Room A 6) (he : At h₀ s.heap e (rotO de L hf est bits added q t1 t2 t3 t4)) (hd : At h₀ s.heap de (dictOf [] 0)) (hL : At h₀ s.heap L (listO (refs bs) n)) (hsz : bs.length < 1000)
    (ret : ∀ t h' tk', Mod [] s.heap h' → Q (.int ((bs.length : Int) - 1) t) { s with heap := h', toks := tk' }) :
    wpAny (model PySem.Challenge.rw_sv0019_01.row.prog w) A (getAttr (.ref e) (Str.ofString "expansions") b) Q E s := by
  obtain ⟨hd0, dp0, fr0, gd0, un0⟩ := A
  obtain rfl : hd0 = none := hr.hd
  have n2 := neN (fun q : e = de => At.clash he (q ▸ hd))
  have n3 := neN (fun q : e = L => At.clash he (q ▸ hL))
  have n4 := neN (fun q : de = L => At.clash hd (q ▸ hL))
  have hsz2 : (refs bs).length < 1000 := by rw [List.length_map]; exact hsz
  have XS : (hd1.heap_39 w.params).In s.heap := O.wd.1.keeps O.stays
  refine' prop_slot (K := hd1.heap_39 w.params) (C := 539) (ox := rotO de L hf est bits added q t1 t2 t3 t4) (o := dictOf [] 0) XS ⟨he.1, rfl, rfl, hd.1⟩ ?g ?c ?a ?nn ?t ?p ?_
  case g => k_is
  case c => k_is
  case a => k_is
  case nn => k_is
  case t => k_is
  case p => k_is
  have O' : On w h₀ ({ s with toks := s.toks + 1 } : Shared).heap := O
  have Al : AllAt h₀ ({ s with toks := s.toks + 1 } : Shared).heap [(e, rotO de L hf est bits added q t1 t2 t3 t4), (de, dictOf [] 0), (L, listO (refs bs) n)] := List.forall_mem_cons.mpr ⟨he, List.forall_mem_cons.mpr ⟨hd, List.forall_mem_cons.mpr ⟨hL, List.forall_mem_nil _⟩⟩⟩
  have hr1 : Room (Around.in1 ⟨none, dp0, fr0, gd0, un0⟩) 5 := hr.in1
  walk_at "bf enter"
  intro g L' h₁ p₁ loose mean mg mb hg0 hg2 F N X T
  (try dsimp only); (try k_fold)
  walk_at "bf steps"
  have eL : ((refs bs).toArray.size : Int) = bs.length := by rw [List.size_toArray, List.length_map]
  rw [eL] at *
  exact ret _ _ _ (mod_of [] hg2 F N Al (fun p hp _ => hp))
theorem prop_rot_cur {w : World} {A : Around} {E : Value → Shared → Prop} {Q : Value → Shared → Prop} {s : Shared} {h₀ : Heap} {e de L : Addr} {hf : Value} {est bits added q : Int} {t1 t2 t3 t4 : Tok} {n : Nat} {bs : List BH} {b : Bool} 
    (O : On w h₀ s.heap) (hr : Room A 6) (he : At h₀ s.heap e (rotO de L hf est bits added q t1 t2 t3 t4)) (hd : At h₀ s.heap de (dictOf [] 0)) (hL : At h₀ s.heap L (listO (refs bs) n)) (hsz : bs.length < 1000)
    (ret : ∀ t h' tk', Mod [] s.heap h' → Q (.int (bs.length : Int) t) { s with heap := h', toks := tk' }) :
    wpAny (model PySem.Challenge.rw_sv0019_01.row.prog w) A (getAttr (.ref e) (Str.ofString "current_queue_size") b) Q E s := by
  obtain ⟨hd0, dp0, fr0, gd0, un0⟩ := A
  obtain rfl : hd0 = none := hr.hd
  have n2 := neN (fun q : e = de => At.clash he (q ▸ hd))
  have n3 := neN (fun q : e = L => At.clash he (q ▸ hL))
  have n4 := neN (fun q : de = L => At.clash hd (q ▸ hL))
  have hsz2 : (refs bs).length < 1000 := by rw [List.length_map]; exact hsz
  have XS : (hd1.heap_39 w.params).In s.heap := O.wd.1.keeps O.stays
  refine' prop_slot (K := hd1.heap_39 w.params) (C := 539) (ox := rotO de L hf est bits added q t1 t2 t3 t4) (o := dictOf [] 0) XS ⟨he.1, rfl, rfl, hd.1⟩ ?g ?c ?a ?nn ?t ?p ?_
  case g => k_is
  case c => k_is
  case a => k_is
  case nn => k_is
  case t => k_is
  case p => k_is
  have O' : On w h₀ ({ s with toks := s.toks + 1 } : Shared).heap := O
  have Al : AllAt h₀ ({ s with toks := s.toks + 1 } : Shared).heap [(e, rotO de L hf est bits added q t1 t2 t3 t4), (de, dictOf [] 0), (L, listO (refs bs) n)] := List.forall_mem_cons.mpr ⟨he, List.forall_mem_cons.mpr ⟨hd, List.forall_mem_cons.mpr ⟨hL, List.forall_mem_nil _⟩⟩⟩
  have hr1 : Room (Around.in1 ⟨none, dp0, fr0, gd0, un0⟩) 5 := hr.in1
  walk_at "bf enter"
  intro g L' h₁ p₁ loose mean mg mb hg0 hg2 F N X T
  (try dsimp only); (try k_fold)
  walk_at "bf steps"
  have eL : ((refs bs).toArray.size : Int) = bs.length := by rw [List.size_toArray, List.length_map]
  rw [eL] at *
  exact ret _ _ _ (mod_of [] hg2 F N Al (fun p hp _ => hp))
end
section
abbrev rot0 (de L : Addr) (hf : Value) (est bits added : Int) (t1 t2 t3 : Tok) : Obj := ⟨.ref 539, some de, .plain, #[none, some (.int est t1), some (.int bits t2), some hf, some (.int added t3), some (.ref L)]⟩
theorem none_of {h h' : Heap} {a : Addr} (M : Mod [] h h') (q : h'.get? a = none) : h.get? a = none := by
  cases e : h.get? a with
  | none => rfl
  | some o => rw [M a o (fun z => nomatch z) e] at q; cases q
theorem bloom_news {D : BD} {h₀ g h : Heap} {L' x dx l : Addr} {m : Str → Option Value} {news : List (Addr × Obj)} {cnt : Nat} {p : Nat → Bool} (_F : Fr g L' h m) (N : News g L' h news)
    (a1 : x ≠ L' ∧ g.get? x = none) (a2 : dx ≠ L' ∧ g.get? dx = none) (a3 : l ≠ L' ∧ g.get? l = none) (B : IsBloom D h₀ h x dx l cnt p) :
    ∃ (t1 t2 t3 t4 t5 t6 t7 t8 : Tok) (bsv : List Value) (bs : List Int) (nn : Nat), IntsAre bsv bs ∧ Bits bs D.nb p ∧
      News g L' h ((x, bloomO dx l D.hf D.nb cnt D.est D.bits D.nh t1 t2 t3 t4 t5 t6 t7 t8) :: (dx, dictOf [] 0) :: (l, listO bsv nn) :: news) :=
  let ⟨t1, t2, t3, t4, t5, t6, t7, t8, bsv, bs, nn, b1, b2, b3, b4, b5⟩ := B
  ⟨t1, t2, t3, t4, t5, t6, t7, t8, bsv, bs, nn, b4, b5, news_add (news_add (news_add N b3.1 a3) b2.1 a2) b1.1 a1⟩
theorem addb_exp {w : World} {A : Around} {R : Result → Shared → Prop} {s : Shared} {h₀ : Heap} {D : BD} {e de L : Addr} {added q : Int} {t1 t2 t3 t4 : Tok} {n : Nat}
    {bs : List BH}
    (O : On w h₀ s.heap) (hr : Room A 20) (ok : D.Ok) (he : At h₀ s.heap e (expO de L D.hf D.est D.bits added t1 t2 t3)) (hd : At h₀ s.heap de (dictOf [] 0)) (hL : At h₀ s.heap L (listO (refs bs) n)) (hsz : bs.length < 1000)
    (ret : ∀ x dx l n' h' tk', Mod [L] s.heap h' → s.heap.get? x = none → s.heap.get? dx = none → s.heap.get? l = none → At h₀ h' L (listO (refs (bs ++ [⟨x, dx, l, 0, fun _ => false⟩])) n') → IsBloom D h₀ h' x dx l 0 (fun _ => false) →
      R (.ok (.ret .none)) { s with heap := h', toks := tk' }) :
    codeAny (model PySem.Challenge.rw_sv0019_01.row.prog w) A (.call (.ref 446) ⟨[.ref e], []⟩) R s := by
  obtain ⟨hd0, dp0, fr0, gd0, un0⟩ := A
  obtain rfl : hd0 = none := hr.hd
  have n2 := neN (fun q : e = de => At.clash he (q ▸ hd))
  have n3 := neN (fun q : e = L => At.clash he (q ▸ hL))
  have n4 := neN (fun q : de = L => At.clash hd (q ▸ hL))
  obtain ⟨bits, est, nh, nb, hf⟩ := D
  obtain ⟨f0, f1, f2, f3, f4, f5, f6, f7, f8, ⟨f, f9⟩, f10⟩ := ok
  dsimp only at *
  subst f9 f6
  have Al : AllAt h₀ s.heap [(e, expO de L (.ref f) est bits added t1 t2 t3), (de, dictOf [] 0), (L, listO (refs bs) n)] :=
    List.forall_mem_cons.mpr ⟨he, List.forall_mem_cons.mpr ⟨hd, List.forall_mem_cons.mpr ⟨hL, List.forall_mem_nil _⟩⟩⟩
  walk_at "bf enter"
  intro g L' h₁ p₁ loose mean mg mb hg0 hg2 F N X T
  (try dsimp only); (try k_fold)
  walk_at "bf steps"
  refine wpAny_call ?_
  refine new_kw (h₀ := h₀) (est := est) (bits := bits) (nh := nh) (O.fr hg0 F) (hr.down 6).deeper f4 f5 f0 f7 f10 f8 ?_
  intro x dx l h5 tk5 M5 nx nd nl B5
  dsimp only at *
  have F5 := fr_mod0 F M5
  have N5 := news_mod0 N M5
  have n9 : ∀ a, h₁.get? a = none → s.heap.get? a = none := fun a q => none_of (mod_of [] hg2 F N Al (fun p hp _ => hp)) q
  have m1 := neN (ne_new (N _ (.tail _ (.tail _ (.head _)))).1 nx)
  have m2 := neN (ne_new (N _ (.tail _ (.tail _ (.head _)))).1 nd)
  have m3 := neN (ne_new (N _ (.tail _ (.tail _ (.head _)))).1 nl)
  have N6 := bloom_news F5 N5 (fr_new F nx) (fr_new F nd) (fr_new F nl) B5
  clear N5 N
  obtain ⟨u1, u2, u3, u4, u5, u6, u7, u8, bsv, bsi, nn, q4, q5, N6⟩ := N6
  dsimp only at *
  walk_at "bf steps"
  rename_i h6 F6 N7
  refine ret x dx l (n + 1) h6 _ (mod_of [L] hg2 F6 N7 Al ?_) ?_ ?_ ?_ ?_ ?_
  · intro p hp hW
    rcases List.mem_cons.mp hp with rfl | hp
    · exact .tail _ (.tail _ (.tail _ (.head _)))
    rcases List.mem_cons.mp hp with rfl | hp
    · exact .tail _ (.tail _ (.tail _ (.tail _ (.head _))))
    rcases List.mem_cons.mp hp with rfl | hp
    · exact absurd (List.mem_singleton.mpr rfl) hW
    · cases hp
  · exact n9 _ nx
  · exact n9 _ nd
  · exact n9 _ nl
  · have := At.ofNews hg0 N7 (.tail _ (.tail _ (.tail _ (.tail _ (.tail _ (.head _))))))
    rw [show refs (bs ++ [⟨x, dx, l, 0, fun _ => false⟩]) = refs bs ++ [.ref x] from by simp [refs]]
    simpa [listO, W.listOf] using this
  · exact ⟨u1, u2, u3, u4, u5, u6, u7, u8, bsv, bsi, nn, At.ofNews hg0 N7 (.head _), At.ofNews hg0 N7 (.tail _ (.head _)), At.ofNews hg0 N7 (.tail _ (.tail _ (.head _))), q4, q5⟩
theorem addb_rot {w : World} {A : Around} {R : Result → Shared → Prop} {s : Shared} {h₀ : Heap} {D : BD} {e de L : Addr} {added q : Int} {t1 t2 t3 t4 : Tok} {n : Nat}
    {bs : List BH}
    (O : On w h₀ s.heap) (hr : Room A 20) (ok : D.Ok) (he : At h₀ s.heap e (rotO de L D.hf D.est D.bits added q t1 t2 t3 t4)) (hd : At h₀ s.heap de (dictOf [] 0)) (hL : At h₀ s.heap L (listO (refs bs) n)) (hsz : bs.length < 1000)
    (ret : ∀ x dx l n' h' tk', Mod [L] s.heap h' → s.heap.get? x = none → s.heap.get? dx = none → s.heap.get? l = none → At h₀ h' L (listO (refs (bs ++ [⟨x, dx, l, 0, fun _ => false⟩])) n') → IsBloom D h₀ h' x dx l 0 (fun _ => false) →
      R (.ok (.ret .none)) { s with heap := h', toks := tk' }) :
    codeAny (model PySem.Challenge.rw_sv0019_01.row.prog w) A (.call (.ref 535) ⟨[.ref e], []⟩) R s := by
  obtain ⟨hd0, dp0, fr0, gd0, un0⟩ := A
  obtain rfl : hd0 = none := hr.hd
  have n2 := neN (fun q : e = de => At.clash he (q ▸ hd))
  have n3 := neN (fun q : e = L => At.clash he (q ▸ hL))
  have n4 := neN (fun q : de = L => At.clash hd (q ▸ hL))
  obtain ⟨bits, est, nh, nb, hf⟩ := D
  obtain ⟨f0, f1, f2, f3, f4, f5, f6, f7, f8, ⟨f, f9⟩, f10⟩ := ok
  dsimp only at *
  subst f9 f6
  have Al : AllAt h₀ s.heap [(e, rotO de L (.ref f) est bits added q t1 t2 t3 t4), (de, dictOf [] 0), (L, listO (refs bs) n)] :=
    List.forall_mem_cons.mpr ⟨he, List.forall_mem_cons.mpr ⟨hd, List.forall_mem_cons.mpr ⟨hL, List.forall_mem_nil _⟩⟩⟩
  walk_at "bf enter"
  intro g L' h₁ p₁ loose mean mg mb hg0 hg2 F N X T
  (try dsimp only); (try k_fold)
  walk_at "bf steps"
  refine prop_rot_est (h₀ := h₀) (O.fr hg0 F) (hr.down 13).deeper (At.ofNews hg0 N (.head _)) (At.ofNews hg0 N (.tail _ (.head _))) ?_
  intro h2 tk2 M2
  dsimp only
  have F2 := fr_mod0 F M2
  have N2 := news_mod0 N M2
  walk_at "bf steps"
  refine prop_rot_fpr (h₀ := h₀) (O.fr hg0 F2) (hr.down 13).deeper (At.ofNews hg0 N2 (.head _)) (At.ofNews hg0 N2 (.tail _ (.head _))) ?_
  intro h3 tk3 M3
  dsimp only
  have F3 := fr_mod0 F2 M3
  have N3 := news_mod0 N2 M3
  clear N2
  walk_at "bf steps"
  refine prop_rot_hash (h₀ := h₀) (O.fr hg0 F3) (hr.down 13).deeper (At.ofNews hg0 N3 (.head _)) (At.ofNews hg0 N3 (.tail _ (.head _))) ?_
  intro h4 tk4 M4
  dsimp only
  have F4 := fr_mod0 F3 M4
  have N4 := news_mod0 N3 M4
  clear N3
  walk_at "bf steps"
  refine wpAny_call ?_
  refine new_kw (h₀ := h₀) (est := est) (bits := bits) (nh := nh) (O.fr hg0 F4) (hr.down 6).deeper f4 f5 f0 f7 f10 f8 ?_
  intro x dx l h5 tk5 M5 nx nd nl B5
  dsimp only at *
  have F5 := fr_mod0 F4 M5
  have N5 := news_mod0 N4 M5
  have n9 : ∀ a, h₁.get? a = none → s.heap.get? a = none := fun a q => none_of (mod_of [] hg2 F N Al (fun p hp _ => hp)) q
  have n8 : ∀ a, h4.get? a = none → h₁.get? a = none := fun a q => none_of M2 (none_of M3 (none_of M4 q))
  have m1 := neN (ne_new (N4 _ (.tail _ (.tail _ (.head _)))).1 nx)
  have m2 := neN (ne_new (N4 _ (.tail _ (.tail _ (.head _)))).1 nd)
  have m3 := neN (ne_new (N4 _ (.tail _ (.tail _ (.head _)))).1 nl)
  have N6 := bloom_news F5 N5 (fr_new F4 nx) (fr_new F4 nd) (fr_new F4 nl) B5
  clear N5 N4 N
  obtain ⟨u1, u2, u3, u4, u5, u6, u7, u8, bsv, bsi, nn, q4, q5, N6⟩ := N6
  dsimp only at *
  walk_at "bf steps"
  rename_i h6 F6 N7
  refine ret x dx l (n + 1) h6 _ (mod_of [L] hg2 F6 N7 Al ?_) ?_ ?_ ?_ ?_ ?_
  · intro p hp hW
    rcases List.mem_cons.mp hp with rfl | hp
    · exact .tail _ (.tail _ (.tail _ (.head _)))
    rcases List.mem_cons.mp hp with rfl | hp
    · exact .tail _ (.tail _ (.tail _ (.tail _ (.head _))))
    rcases List.mem_cons.mp hp with rfl | hp
    · exact absurd (List.mem_singleton.mpr rfl) hW
    · cases hp
  · exact n9 _ (n8 _ nx)
  · exact n9 _ (n8 _ nd)
  · exact n9 _ (n8 _ nl)
  · have := At.ofNews hg0 N7 (.tail _ (.tail _ (.tail _ (.tail _ (.tail _ (.head _))))))
    rw [show refs (bs ++ [⟨x, dx, l, 0, fun _ => false⟩]) = refs bs ++ [.ref x] from by simp [refs]]
    simpa [listO, W.listOf] using this
  · exact ⟨u1, u2, u3, u4, u5, u6, u7, u8, bsv, bsi, nn, At.ofNews hg0 N7 (.head _), At.ofNews hg0 N7 (.tail _ (.head _)), At.ofNews hg0 N7 (.tail _ (.tail _ (.head _))), q4, q5⟩
theorem addb_sup {w : World} {A : Around} {R : Result → Shared → Prop} {s : Shared} {h₀ : Heap} {D : BD} {e de L : Addr} {added q : Int} {t1 t2 t3 t4 : Tok} {n : Nat}
    {bs : List BH}
    (O : On w h₀ s.heap) (hr : Room A 20) (ok : D.Ok) (he : At h₀ s.heap e (rot0 de L D.hf D.est D.bits added t1 t2 t3)) (hd : At h₀ s.heap de (dictOf [] 0)) (hL : At h₀ s.heap L (listO (refs bs) n)) (hsz : bs.length < 1000)
    (ret : ∀ x dx l n' h' tk', Mod [L] s.heap h' → s.heap.get? x = none → s.heap.get? dx = none → s.heap.get? l = none → At h₀ h' L (listO (refs (bs ++ [⟨x, dx, l, 0, fun _ => false⟩])) n') → IsBloom D h₀ h' x dx l 0 (fun _ => false) →
      R (.ok (.ret .none)) { s with heap := h', toks := tk' }) :
    codeAny (model PySem.Challenge.rw_sv0019_01.row.prog w) A (.call (.ref 446) ⟨[.ref e], []⟩) R s := by
  obtain ⟨hd0, dp0, fr0, gd0, un0⟩ := A
  obtain rfl : hd0 = none := hr.hd
  have n2 := neN (fun q : e = de => At.clash he (q ▸ hd))
  have n3 := neN (fun q : e = L => At.clash he (q ▸ hL))
  have n4 := neN (fun q : de = L => At.clash hd (q ▸ hL))
  obtain ⟨bits, est, nh, nb, hf⟩ := D
  obtain ⟨f0, f1, f2, f3, f4, f5, f6, f7, f8, ⟨f, f9⟩, f10⟩ := ok
  dsimp only at *
  subst f9 f6
  have Al : AllAt h₀ s.heap [(e, rot0 de L (.ref f) est bits added t1 t2 t3), (de, dictOf [] 0), (L, listO (refs bs) n)] :=
    List.forall_mem_cons.mpr ⟨he, List.forall_mem_cons.mpr ⟨hd, List.forall_mem_cons.mpr ⟨hL, List.forall_mem_nil _⟩⟩⟩
  walk_at "bf enter"
  intro g L' h₁ p₁ loose mean mg mb hg0 hg2 F N X T
  (try dsimp only); (try k_fold)
  walk_at "bf steps"
  refine wpAny_call ?_
  refine new_kw (h₀ := h₀) (est := est) (bits := bits) (nh := nh) (O.fr hg0 F) (hr.down 6).deeper f4 f5 f0 f7 f10 f8 ?_
  intro x dx l h5 tk5 M5 nx nd nl B5
  dsimp only at *
  have F5 := fr_mod0 F M5
  have N5 := news_mod0 N M5
  have n9 : ∀ a, h₁.get? a = none → s.heap.get? a = none := fun a q => none_of (mod_of [] hg2 F N Al (fun p hp _ => hp)) q
  have m1 := neN (ne_new (N _ (.tail _ (.tail _ (.head _)))).1 nx)
  have m2 := neN (ne_new (N _ (.tail _ (.tail _ (.head _)))).1 nd)
  have m3 := neN (ne_new (N _ (.tail _ (.tail _ (.head _)))).1 nl)
  have N6 := bloom_news F5 N5 (fr_new F nx) (fr_new F nd) (fr_new F nl) B5
  clear N5 N
  obtain ⟨u1, u2, u3, u4, u5, u6, u7, u8, bsv, bsi, nn, q4, q5, N6⟩ := N6
  dsimp only at *
  walk_at "bf steps"
  rename_i h6 F6 N7
  refine ret x dx l (n + 1) h6 _ (mod_of [L] hg2 F6 N7 Al ?_) ?_ ?_ ?_ ?_ ?_
  · intro p hp hW
    rcases List.mem_cons.mp hp with rfl | hp
    · exact .tail _ (.tail _ (.tail _ (.head _)))
    rcases List.mem_cons.mp hp with rfl | hp
    · exact .tail _ (.tail _ (.tail _ (.tail _ (.head _))))
    rcases List.mem_cons.mp hp with rfl | hp
    · exact absurd (List.mem_singleton.mpr rfl) hW
    · cases hp
  · exact n9 _ nx
  · exact n9 _ nd
  · exact n9 _ nl
  · have := At.ofNews hg0 N7 (.tail _ (.tail _ (.tail _ (.tail _ (.tail _ (.head _))))))
    rw [show refs (bs ++ [⟨x, dx, l, 0, fun _ => false⟩]) = refs bs ++ [.ref x] from by simp [refs]]
    simpa [listO, W.listOf] using this
  · exact ⟨u1, u2, u3, u4, u5, u6, u7, u8, bsv, bsi, nn, At.ofNews hg0 N7 (.head _), At.ofNews hg0 N7 (.tail _ (.head _)), At.ofNews hg0 N7 (.tail _ (.tail _ (.head _))), q4, q5⟩
end
section
def FreshB (h : Heap) (b : BH) : Prop := h.get? b.x = none ∧ h.get? b.dx = none ∧ h.get? b.l = none ∧ b.cnt = 0 ∧ b.p = fun _ => false
theorem last_item {prog : Program} {w : World} {A : Around} {E : Value → Shared → Prop} {s : Shared} {value slice : PySem.Expr} {l : Addr} {bs : List BH} {u : Tok} {Q : Value → Shared → Prop} (hne : bs ≠ [])
    (hl : s.heap.IsList l (refs bs).toArray) (h : Q (.ref (bs.getLast hne).x) s)
    (hs : subscripted slice false (.ref l) (.int (-1) u) = operate [.ref l, .int (-1) u] (getItem (.ref l) (.int (-1) u)) := by with_unfolding_all rfl) :
    wpAny (model prog w) A (subscriptTail value slice (.ref l) (.int (-1) u)) Q E s := by
  have hp : 0 < bs.length := List.length_pos_iff.mpr hne
  have hz : (refs bs).toArray.size = bs.length := by rw [List.size_toArray, List.length_map]
  refine tail_any hl.typeIs slot_list_getitem.lookup (wpAny_getItem_list_neg hl (by decide) ?_ (by decide) ?_ h) hs
  · rw [hz]; omega
  · rw [hz]
    have : (-1 + (bs.length : Int)).toNat = bs.length - 1 := by omega
    rw [this]
    have hlt : bs.length - 1 < bs.length := by omega
    rw [List.getLast_eq_getElem, List.getElem?_toArray, refs, List.getElem?_map, List.getElem?_eq_getElem hlt]
    rfl
theorem head_item {prog : Program} {w : World} {A : Around} {E : Value → Shared → Prop} {s : Shared} {value slice : PySem.Expr} {l : Addr} {bs : List BH} {u : Tok} {Q : Value → Shared → Prop} (hne : bs ≠ [])
    (hl : s.heap.IsList l (refs bs).toArray) (h : Q (.ref (bs.head hne).x) s)
    (hs : subscripted slice false (.ref l) (.int 0 u) = operate [.ref l, .int 0 u] (getItem (.ref l) (.int 0 u)) := by with_unfolding_all rfl) :
    wpAny (model prog w) A (subscriptTail value slice (.ref l) (.int 0 u)) Q E s := by
  refine tail_any hl.typeIs slot_list_getitem.lookup (wpAny_getItem_list hl (by decide) (by decide) ?_ h) hs
  cases bs with
  | nil => exact absurd rfl hne
  | cons b bs => rfl
theorem pop_refs {prog : Program} {w : World} {A : Around} {E : Value → Shared → Prop} {s : Shared} {h₀ : Heap} {L' L : Addr} {m : Str → Option Value} {news news' : List (Addr × Obj)} {b : BH} {bs : List BH} {n : Nat} {u : Tok} {Q : Value → Shared → Prop}
    (F : Fr h₀ L' s.heap m) (N : News h₀ L' s.heap news) (U : Upd L (listO (refs (b :: bs)) n) (listO (refs bs) (n + 1)) news news') (hz : (b :: bs).length < 1000)
    (h : ∀ h', Fr h₀ L' h' m → News h₀ L' h' news' → Q (.ref b.x) { s with heap := h' }) : wpAny (model prog w) A (call (.builtin "list.pop") [.ref L, .int 0 u]) Q E s := by
  have e : (refs (b :: bs)).toArray.size = bs.length + 1 := by rw [List.size_toArray, List.length_map, List.length_cons]
  refine kl_popAt (its := (refs (b :: bs)).toArray) (k := 0) (p := []) (q := refs bs) F N rfl ?_ rfl U ?_ h
  · rw [e]
    unfold seqIndex?
    simp
  · have : (refs (b :: bs)).length = bs.length + 1 := by rw [List.length_map, List.length_cons]
    show (refs (b :: bs)).length ≤ _
    rw [this]
    have h2 : bs.length + 1 < 1000 := hz
    refine Nat.le_trans (Nat.le_of_lt h2) (by decide)
theorem none_ofL {h h' : Heap} {a L : Addr} {o : Obj} (M : Mod [L] h h') (hL : h'.get? L = some o) (q : h'.get? a = none) : h.get? a = none := by
  cases e : h.get? a with
  | none => rfl
  | some o' =>
    by_cases z : a = L
    · rw [z, hL] at q; cases q
    · rw [M a o' (by simpa using z) e] at q; cases q
end
end
section
local macro_rules | `(tactic| walk_at "binaryOp Mod int int") => `(tactic| ((with_reducible refine mod8_nat ?_)))
local macro_rules | `(tactic| walk_at "binaryOp Mod int int") => `(tactic| ((with_reducible refine mod_any (by assumption) ?_); intro r1 hr1 hr2))
local macro_rules | `(tactic| walk_at "binaryOp FloorDiv int int") => `(tactic| ((with_reducible refine div8_nat (by omega) ?_)))
local macro_rules | `(tactic| walk_at "binaryOp LShift int int") => `(tactic| ((with_reducible refine shl1_nat (by omega) ?_)))
local macro_rules | `(tactic| walk_at "subscriptTail") => `(tactic| (k_here; (with_reducible show wpAny _ _ (subscriptTail _ _ (Value.ref _) (Value.int _ _)) _ _ _); (with_unfolding_all refine' item_ints ?k1 ?k2 ?k3 ?k4 ?k5 ?_ ?k7; (case k1 => exact News.isList (by k_asm) (by k_mem)); (case k2 => assumption); (case k3 => omega); (case k4 => omega); (case k5 => omega); (case k7 => with_unfolding_all rfl); k_whole); intro _))
local macro_rules | `(tactic| walk_at "bf dec") => `(tactic| ((try simp only [decide_eq_true_eq, decide_eq_false_iff_not, Bool.not_eq_true', Bool.not_eq_false', Bool.not_eq_true, Bool.not_eq_false, beq_iff_eq, Bool.and_eq_true, Bool.not_true, Bool.not_false]); first | rfl | omega))
local macro_rules | `(tactic| walk_at "ite") => `(tactic| (k_here; (first | (k_closed; k_dflt (first | refine ite_pos (by decide) ?_ | refine ite_neg (by decide) ?_)) | refine ite_pos (by first | assumption | (walk_at "bf dec")) ?_ | refine ite_neg (by first | assumption | (walk_at "bf dec")) ?_ | (refine bf_ite ?_ ?_ <;> intro hc)); (try dsimp only)))
local macro_rules | `(tactic| walk_at "bf steps") => `(tactic| repeat' (first | (k_unfold; (try dsimp only)) | (walk1 <;> (try dsimp only)) | fail "no step"))
local macro_rules | `(tactic| walk_at "bf enter") => `(tactic| (refine' enter _ (by assumption) (by assumption) ?ho ?hcd ?hroom ?hbind ?hloc ?_ ?c1 ?c2 ?c3 ?c4; (case ho => k_is); (case hcd => k_is); (case hroom => first | assumption | omega | exact Room.lt (by assumption)); (case hbind => first | exact BindsTo.of_eq rfl | exact binds_K (by assumption) rfl (by k_is) rfl rfl rfl); (case hloc => exact locs rfl); (case c1 => exact rfl); (case c2 => exact rfl); (case c3 => exact rfl); (case c4 => decide)))
local macro_rules | `(tactic| walk_at "getMethod ref") => `(tactic| (k_here; (with_reducible show wpAny _ _ (getMethod _ (Str.ofString "_get_optimized_params") _) _ _ _); k_dflt (refine' cm_slot ?k1 ?k2 ?k3 ?k4 ?k5 ?k6 ?k7 ?k8 ?k9 ?k10 ?k11 ?k12 ?k13 ?_; (case k1 => k_asm); (case k2 => k_asm); (case k3 => k_asm); (case k4 => k_inst); (case k5 => k_is); (case k6 => k_is); (case k7 => k_is); (case k8 => k_is); (case k9 => k_is); (case k10 => k_is); (case k11 => k_is); (case k12 => decide +kernel); (case k13 => k_is); k_whole; intro q' h' F' N' l1; (try k_lt l1))))
local macro_rules | `(tactic| walk_at "callWith ref") => `(tactic| (k_here; (with_reducible show wpAny _ _ (callWith _ _ _ (backTo _ (starEach (_ :: _) _)) []) _ _ _); k_dflt (refine' callWith_K ?k1 ?k2 ?_; (case k1 => k_asm); (case k2 => k_is); k_whole)))
local macro_rules | `(tactic| walk_at "callWith ref") => `(tactic| (k_here; (with_reducible show wpAny _ _ (callWith _ _ _ _ (backToKw _ (keywordEach (_ :: _) _))) _ _ _); k_dflt (refine' callWith_KW ?k1 ?k2 ?k3 ?_; (case k1 => k_asm); (case k2 => k_is); (case k3 => exact rfl); k_whole)))
local macro_rules | `(tactic| walk_at "call builtin:len") => `(tactic| (k_here; (with_reducible show wpAny _ _ (call (Value.builtin "len") [Value.ref _]) _ _ _); (with_unfolding_all refine' call_len_list (items := (refs _).toArray) ?k1 ?k2 ?_; (case k1 => exact News.isList (by k_asm) (by k_mem)); (case k2 => (rw [List.size_toArray]; omega)); k_whole)))
local macro_rules | `(tactic| walk_at "subscriptTail") => `(tactic| (k_here; (with_reducible show wpAny _ _ (subscriptTail _ _ (Value.ref _) (Value.int _ _)) _ _ _); first
  | ((with_reducible show wpAny _ _ (subscriptTail _ _ (Value.ref _) (Value.int (-1) _)) _ _ _); with_unfolding_all refine' last_item ?k1 ?k2 ?_ ?k3; (case k2 => exact News.isList (by k_asm) (by k_mem)); (case k1 => assumption); (case k3 => with_unfolding_all rfl); k_whole)
  | ((with_reducible show wpAny _ _ (subscriptTail _ _ (Value.ref _) (Value.int 0 _)) _ _ _); with_unfolding_all refine' head_item ?k1 ?k2 ?_ ?k3; (case k2 => exact News.isList (by k_asm) (by k_mem)); (case k1 => assumption); (case k3 => with_unfolding_all rfl); k_whole)))
local macro_rules | `(tactic| walk_at "call builtin:list.pop") => `(tactic| (k_here; (with_reducible show wpAny _ _ (call (Value.builtin _) [Value.ref _, Value.int _ _]) _ _ _); k_dflt (refine' pop_refs ?F ?N ?U ?z ?_; (case F => k_asm); (case N => k_asm); (case U => k_upd); (case z => assumption)); (intro h' F' N'; (try dsimp only [List.nil_append, List.cons_append] at N'))))
local macro_rules | `(tactic| walk_at "getMethod ref") => `(tactic| (k_here; (with_reducible show wpAny _ _ (getMethod (Value.ref (BH.x _)) (Str.ofString "add_alt") _) _ _ _); k_dflt (refine' method_fn (C := 325) (f := 248) (od := some (dictOf [] 0)) ?y0 ⟨?x1, ?x3, ?x4, ?x2⟩ ?y1 ?y2 ?y3 ?y4 ?y5 ?_; (case y0 => assumption); (case x1 => assumption); (case x3 => exact rfl); (case x4 => exact rfl); (case x2 => assumption); (case y1 => k_is); (case y2 => k_is); (case y3 => k_is); (case y4 => k_is); (case y5 => exact rfl); k_whole)))
local macro_rules | `(tactic| walk_at "getMethod ref") => `(tactic| (k_here; (with_reducible show wpAny _ _ (getMethod (Value.ref (BH.x _)) (Str.ofString "hashes") _) _ _ _); k_dflt (refine' method_fn (C := 325) (f := 234) (od := some (dictOf [] 0)) ?y0 ⟨?x1, ?x3, ?x4, ?x2⟩ ?y1 ?y2 ?y3 ?y4 ?y5 ?_; (case y0 => assumption); (case x1 => assumption); (case x3 => exact rfl); (case x4 => exact rfl); (case x2 => assumption); (case y1 => k_is); (case y2 => k_is); (case y3 => k_is); (case y4 => k_is); (case y5 => exact rfl); k_whole)))
local macro_rules | `(tactic| walk_at "getMethod ref") => `(tactic| (k_here; (with_reducible show wpAny _ _ (getMethod (Value.ref _) (Str.ofString "_hash_func") _) _ _ _); k_dflt (refine' mu_slot ?y0 ?y6 ?y5 ?y1 ?y2 ?y3 ?y4 ?_; (case y0 => k_asm); (case y6 => k_asm); (case y5 => k_inst); (case y1 => k_is); (case y2 => k_is); (case y3 => k_is); (case y4 => first | exact rfl | decide +kernel); k_whole)))
local macro_rules | `(tactic| walk_at "callWith ref") => `(tactic| (k_here; (with_reducible show wpAny _ _ (callWith _ (Value.ref _) [] (backTo _ (starEach (_ :: _) _)) []) _ _ _); (rename (FnAt _ _) => fnX); k_dflt (refine' callWith_H ?k1 ?k2 ?k3 ?_; (case k1 => exact fnX); (case k2 => assumption); (case k3 => k_asm); k_whole)))
local macro_rules | `(tactic| walk_at "FnAt") => `(tactic| (k_dflt (refine' fnat_H ?k1 ?k2 ?k3; (case k1 => assumption); (case k2 => assumption); (case k3 => k_asm))))
section
theorem grow_exp {w : World} {A : Around} {R : Result → Shared → Prop} {s : Shared} {h₀ : Heap} {D : BD} {e de L : Addr} {added : Int} {t1 t2 t3 : Tok} {n : Nat}
    {bs : List BH} (hne : bs ≠ [])
    (O : On w h₀ s.heap) (hr : Room A 25) (ok : D.Ok) (he : At h₀ s.heap e (expO de L D.hf D.est D.bits added t1 t2 t3)) (hd : At h₀ s.heap de (dictOf [] 0)) (hL : At h₀ s.heap L (listO (refs bs) n)) (B : IsBlooms D h₀ s.heap bs) (hsz : bs.length < 1000) (hnd : L ∉ feet bs)
    (ret : ∀ bs' n' h' tk', Mod [L] s.heap h' → At h₀ h' L (listO (refs bs') n') → IsBlooms D h₀ h' bs' → (if D.est ≤ (bs.getLast hne).cnt then ∃ b, FreshB s.heap b ∧ bs' = bs ++ [b] else bs' = bs) →
      R (.ok (.ret .none)) { s with heap := h', toks := tk' }) :
    codeAny (model PySem.Challenge.rw_sv0019_01.row.prog w) A (.call (.ref 453) ⟨[.ref e], []⟩) R s := by
  obtain ⟨hd0, dp0, fr0, gd0, un0⟩ := A
  obtain rfl : hd0 = none := hr.hd
  have n2 := neN (fun q : e = de => At.clash he (q ▸ hd))
  have n3 := neN (fun q : e = L => At.clash he (q ▸ hL))
  have n4 := neN (fun q : de = L => At.clash hd (q ▸ hL))
  have Al : AllAt h₀ s.heap [(e, expO de L D.hf D.est D.bits added t1 t2 t3), (de, dictOf [] 0), (L, listO (refs bs) n)] :=
    List.forall_mem_cons.mpr ⟨he, List.forall_mem_cons.mpr ⟨hd, List.forall_mem_cons.mpr ⟨hL, List.forall_mem_nil _⟩⟩⟩
  walk_at "bf enter"
  intro g L' h₁ p₁ loose mean mg mb hg0 hg2 F N X T
  (try dsimp only); (try k_fold)
  walk_at "bf steps"
  have M1 : Mod [] s.heap h₁ := mod_of [] hg2 F N Al (fun p hp _ => hp)
  have Bl := B.mod M1 (fun _ _ z => nomatch z) _ (List.getLast_mem hne)
  obtain ⟨v1, v2, v3, v4, v5, v6, v7, v8, bsv, bsi, nn, q1, q2, q3, q4, q5⟩ := Bl
  refine prop_bl_added (h₀ := h₀) (O.fr hg0 F) (hr.down 18).deeper q1 q2 ?_
  intro h2 tk2 M2
  dsimp only
  have F2 := fr_mod0 F M2
  have N2 := news_mod0 N M2
  walk_at "bf steps"
  · rename_i hc
    refine wpAny_call ?_
    refine addb_exp (h₀ := h₀) (D := D) (q := 0) (t4 := t1) (O.fr hg0 F2) (hr.down 4).deeper ok (At.ofNews hg0 N2 (.head _)) (At.ofNews hg0 N2 (.tail _ (.head _))) (At.ofNews hg0 N2 (.tail _ (.tail _ (.head _)))) hsz ?_
    intro x dx l n' h3 tk3 M3 nx nd nl aL aB
    have F3 := fr_mod F2 M3 (by simpa using (N2 _ (.tail _ (.tail _ (.head _)))).2.1.symm) (by simpa using (N2 _ (.tail _ (.tail _ (.head _)))).2.2)
    dsimp only at *
    clear N N2
    walk_at "bf steps"
    have M12 := M1.trans M2
    refine ret _ n' h3 _ ((M12.mono (fun _ z => nomatch z)).trans M3) aL ?_ ?_
    · intro b hb
      rcases List.mem_append.mp hb with hb | hb
      · refine ((B b hb).mod M12 (fun z => nomatch z) (fun z => nomatch z) (fun z => nomatch z)).mod M3 ?_ ?_ ?_ <;>
        · intro z
          refine hnd (List.mem_flatMap.mpr ⟨b, hb, ?_⟩)
          rw [← List.mem_singleton.mp z]
          simp
      · rw [List.mem_singleton.mp hb]
        exact aB
    · rw [if_pos (by have := of_decide_eq_true hc; omega)]
      exact ⟨_, ⟨none_of M12 nx, none_of M12 nd, none_of M12 nl, rfl, rfl⟩, rfl⟩
  · rename_i hc
    have M12 := M1.trans M2
    refine ret bs n h2 _ (M12.mono (fun _ z => nomatch z)) (At.ofNews hg0 N2 (.tail _ (.tail _ (.head _)))) (B.mod M12 (fun _ _ z => nomatch z)) ?_
    rw [if_neg (by simp only [decide_eq_true_eq] at hc; omega)]
end
section
theorem rot_d {w : World} {A : Around} {R : Result → Shared → Prop} {s : Shared} {h₀ : Heap} {D : BD} {e de L : Addr} {added q : Int} {t1 t2 t3 t4 : Tok} {n : Nat}
    {bs : List BH} (hne : bs ≠ [])
    (O : On w h₀ s.heap) (hr : Room A 25) (ok : D.Ok) (he : At h₀ s.heap e (rotO de L D.hf D.est D.bits added q t1 t2 t3 t4)) (hd : At h₀ s.heap de (dictOf [] 0)) (hL : At h₀ s.heap L (listO (refs bs) n)) (B : IsBlooms D h₀ s.heap bs) (hsz : bs.length < 1000) (hnd : L ∉ feet bs)
    (ret : ∀ bs' n' h' tk', Mod [L] s.heap h' → At h₀ h' L (listO (refs bs') n') → IsBlooms D h₀ h' bs' → (if D.est = (bs.getLast hne).cnt then ∃ b, FreshB s.heap b ∧ bs' = (if (bs.length : Int) < q then bs else bs.tail) ++ [b] else bs' = bs) →
      R (.ok (.ret .none)) { s with heap := h', toks := tk' }) :
    codeAny (model PySem.Challenge.rw_sv0019_01.row.prog w) A (.call (.ref 528) ⟨[.ref e], []⟩) R s := by
  obtain ⟨b0, bs1, rfl⟩ : ∃ b0 bs1, bs = b0 :: bs1 := by
    cases bs with
    | nil => exact absurd rfl hne
    | cons b bs => exact ⟨_, _, rfl⟩
  obtain ⟨hd0, dp0, fr0, gd0, un0⟩ := A
  obtain rfl : hd0 = none := hr.hd
  have n2 := neN (fun q : e = de => At.clash he (q ▸ hd))
  have n3 := neN (fun q : e = L => At.clash he (q ▸ hL))
  have n4 := neN (fun q : de = L => At.clash hd (q ▸ hL))
  have Al : AllAt h₀ s.heap [(e, rotO de L D.hf D.est D.bits added q t1 t2 t3 t4), (de, dictOf [] 0), (L, listO (refs (b0 :: bs1)) n)] :=
    List.forall_mem_cons.mpr ⟨he, List.forall_mem_cons.mpr ⟨hd, List.forall_mem_cons.mpr ⟨hL, List.forall_mem_nil _⟩⟩⟩
  have XS : (hd1.heap_39 w.params).In s.heap := O.wd.1.keeps O.stays
  walk_at "bf enter"
  intro g L' h₁ p₁ loose mean mg mb hg0 hg2 F N X T
  (try dsimp only); (try k_fold)
  walk_at "bf steps"
  rename_i h1 F1 N1
  have M1 : Mod [] s.heap h1 := mod_of [] hg2 F1 N1 Al (fun p hp _ => hp)
  have Bl := B.mod M1 (fun _ _ z => nomatch z) _ (List.getLast_mem hne)
  obtain ⟨v1, v2, v3, v4, v5, v6, v7, v8, bsv, bsi, nn, q1, q2, q3, q4, q5⟩ := id Bl
  refine prop_bl_added (h₀ := h₀) (O.fr hg0 F1) (hr.down 18).deeper q1 q2 ?_
  intro h2 tk2 M2
  dsimp only
  have F2 := fr_mod0 F1 M2
  have N2 := news_mod0 N1 M2
  clear N1
  walk_at "bf steps"
  have Bl := Bl.mod M2 (fun z => nomatch z) (fun z => nomatch z) (fun z => nomatch z)
  obtain ⟨v1, v2, v3, v4, v5, v6, v7, v8, bsv, bsi, nn, q1, q2, q3, q4, q5⟩ := id Bl
  refine prop_bl_est (h₀ := h₀) (O.fr hg0 F2) (hr.down 18).deeper q1 q2 ?_
  intro h3 tk3 M3
  dsimp only
  have F3 := fr_mod0 F2 M3
  have N3 := news_mod0 N2 M3
  clear N2
  walk_at "bf steps"
  rename_i h4 F4 N4
  refine prop_rot_cur (h₀ := h₀) (bs := b0 :: bs1) (O.fr hg0 F4) (hr.down 18).deeper (At.ofNews hg0 N4 (.head _)) (At.ofNews hg0 N4 (.tail _ (.head _))) (At.ofNews hg0 N4 (.tail _ (.tail _ (.head _)))) hsz ?_
  intro tn h5 tk5 M5
  dsimp only
  have F5 := fr_mod0 F4 M5
  have N5 := news_mod0 N4 M5
  clear N4
  walk_at "bf steps"
  · rename_i h6 F6 N6 hc1 hc2
    refine wpAny_call ?_
    refine addb_rot (h₀ := h₀) (D := D) (bs := b0 :: bs1) (O.fr hg0 F6) (hr.down 4).deeper ok (At.ofNews hg0 N6 (.head _)) (At.ofNews hg0 N6 (.tail _ (.head _))) (At.ofNews hg0 N6 (.tail _ (.tail _ (.head _)))) hsz ?_
    intro x dx l n' h7 tk7 M7 nx nd nl aL aB
    have MX : Mod [L] s.heap h6 := mod_of [L] hg2 F6 N6 Al (fun p hp hW => by
      rcases List.mem_cons.mp hp with rfl | hp
      · exact .head _
      rcases List.mem_cons.mp hp with rfl | hp
      · exact .tail _ (.head _)
      rcases List.mem_cons.mp hp with rfl | hp
      · exact absurd (List.mem_singleton.mpr rfl) hW
      · cases hp)
    have gL := (N6 _ (.tail _ (.tail _ (.head _)))).1
    have F7 := fr_mod F6 M7 (by simpa using (N6 _ (.tail _ (.tail _ (.head _)))).2.1.symm) (by simpa using (N6 _ (.tail _ (.tail _ (.head _)))).2.2)
    dsimp only at *
    clear N6
    walk_at "bf steps"
    refine ret _ n' h7 _ (MX.trans M7) aL ?_ ?_
    · intro b hb
      rcases List.mem_append.mp hb with hb | hb
      · have hb' : b ∈ b0 :: bs1 := by simp [hb]
        have k : ∀ a ∈ [b.x, b.dx, b.l], a ∉ [L] := fun a ha z => hnd (List.mem_flatMap.mpr ⟨b, hb', (List.mem_singleton.mp z) ▸ ha⟩)
        exact (B b hb').mod (MX.trans M7) (k _ (.head _)) (k _ (.tail _ (.head _))) (k _ (.tail _ (.tail _ (.head _))))
      · rw [List.mem_singleton.mp hb]
        exact aB
    · rw [if_pos (by simp at hc1; omega)]
      refine ⟨⟨x, dx, l, 0, fun _ => false⟩, ⟨none_ofL MX gL nx, none_ofL MX gL nd, none_ofL MX gL nl, rfl, rfl⟩, ?_⟩
      rw [if_pos (by have := of_decide_eq_true hc2; exact this)]
      try rfl
  · rename_i hc1 hc2 h9 h6 F6 N6
    refine wpAny_call ?_
    refine addb_rot (h₀ := h₀) (D := D) (bs := bs1) (O.fr hg0 F6) (hr.down 4).deeper ok (At.ofNews hg0 N6 (.head _)) (At.ofNews hg0 N6 (.tail _ (.head _))) (At.ofNews hg0 N6 (.tail _ (.tail _ (.head _)))) (by simp at hsz; omega) ?_
    intro x dx l n' h7 tk7 M7 nx nd nl aL aB
    have MX : Mod [L] s.heap h6 := mod_of [L] hg2 F6 N6 Al (fun p hp hW => by
      rcases List.mem_cons.mp hp with rfl | hp
      · exact .head _
      rcases List.mem_cons.mp hp with rfl | hp
      · exact .tail _ (.head _)
      rcases List.mem_cons.mp hp with rfl | hp
      · exact absurd (List.mem_singleton.mpr rfl) hW
      · cases hp)
    have gL := (N6 _ (.tail _ (.tail _ (.head _)))).1
    have F7 := fr_mod F6 M7 (by simpa using (N6 _ (.tail _ (.tail _ (.head _)))).2.1.symm) (by simpa using (N6 _ (.tail _ (.tail _ (.head _)))).2.2)
    dsimp only at *
    clear N6
    walk_at "bf steps"
    refine ret _ n' h7 _ (MX.trans M7) aL ?_ ?_
    · intro b hb
      rcases List.mem_append.mp hb with hb | hb
      · have hb' : b ∈ b0 :: bs1 := by simp [hb]
        have k : ∀ a ∈ [b.x, b.dx, b.l], a ∉ [L] := fun a ha z => hnd (List.mem_flatMap.mpr ⟨b, hb', (List.mem_singleton.mp z) ▸ ha⟩)
        exact (B b hb').mod (MX.trans M7) (k _ (.head _)) (k _ (.tail _ (.head _))) (k _ (.tail _ (.tail _ (.head _))))
      · rw [List.mem_singleton.mp hb]
        exact aB
    · rw [if_pos (by simp at hc1; omega)]
      refine ⟨⟨x, dx, l, 0, fun _ => false⟩, ⟨none_ofL MX gL nx, none_ofL MX gL nd, none_ofL MX gL nl, rfl, rfl⟩, ?_⟩
      rw [if_neg (by intro z; exact hc2 (decide_eq_true z))]
      try rfl
  · rename_i h6 F6 N6 hc1
    have MX : Mod [] s.heap h6 := mod_of [] hg2 F6 N6 Al (fun p hp _ => hp)
    refine ret (b0 :: bs1) n h6 _ (MX.mono (fun _ z => nomatch z)) (At.ofNews hg0 N6 (.tail _ (.tail _ (.head _)))) (B.mod MX (fun _ _ z => nomatch z)) ?_
    rw [if_neg (by simp at hc1; omega)]
theorem rot_f {w : World} {A : Around} {R : Result → Shared → Prop} {s : Shared} {h₀ : Heap} {D : BD} {e de L : Addr} {added q : Int} {t1 t2 t3 t4 : Tok} {n : Nat}
    {bs : List BH} (hne : bs ≠ [])
    (O : On w h₀ s.heap) (hr : Room A 25) (ok : D.Ok) (he : At h₀ s.heap e (rotO de L D.hf D.est D.bits added q t1 t2 t3 t4)) (hd : At h₀ s.heap de (dictOf [] 0)) (hL : At h₀ s.heap L (listO (refs bs) n)) (B : IsBlooms D h₀ s.heap bs) (hsz : bs.length < 1000) (hnd : L ∉ feet bs)
    (ret : ∀ bs' n' h' tk', Mod [L] s.heap h' → At h₀ h' L (listO (refs bs') n') → IsBlooms D h₀ h' bs' → (if True then ∃ b, FreshB s.heap b ∧ bs' = (if (bs.length : Int) < q then bs else bs.tail) ++ [b] else bs' = bs) →
      R (.ok (.ret .none)) { s with heap := h', toks := tk' }) :
    codeAny (model PySem.Challenge.rw_sv0019_01.row.prog w) A (.call (.ref 528) ⟨[.ref e], [(Str.ofString "force", .bool true)]⟩) R s := by
  obtain ⟨b0, bs1, rfl⟩ : ∃ b0 bs1, bs = b0 :: bs1 := by
    cases bs with
    | nil => exact absurd rfl hne
    | cons b bs => exact ⟨_, _, rfl⟩
  obtain ⟨hd0, dp0, fr0, gd0, un0⟩ := A
  obtain rfl : hd0 = none := hr.hd
  have n2 := neN (fun q : e = de => At.clash he (q ▸ hd))
  have n3 := neN (fun q : e = L => At.clash he (q ▸ hL))
  have n4 := neN (fun q : de = L => At.clash hd (q ▸ hL))
  have Al : AllAt h₀ s.heap [(e, rotO de L D.hf D.est D.bits added q t1 t2 t3 t4), (de, dictOf [] 0), (L, listO (refs (b0 :: bs1)) n)] :=
    List.forall_mem_cons.mpr ⟨he, List.forall_mem_cons.mpr ⟨hd, List.forall_mem_cons.mpr ⟨hL, List.forall_mem_nil _⟩⟩⟩
  have XS : (hd1.heap_39 w.params).In s.heap := O.wd.1.keeps O.stays
  walk_at "bf enter"
  intro g L' h₁ p₁ loose mean mg mb hg0 hg2 F N X T
  (try dsimp only); (try k_fold)
  walk_at "bf steps"
  rename_i h1 F1 N1
  have M1 : Mod [] s.heap h1 := mod_of [] hg2 F1 N1 Al (fun p hp _ => hp)
  have Bl := B.mod M1 (fun _ _ z => nomatch z) _ (List.getLast_mem hne)
  obtain ⟨v1, v2, v3, v4, v5, v6, v7, v8, bsv, bsi, nn, q1, q2, q3, q4, q5⟩ := id Bl
  refine prop_bl_added (h₀ := h₀) (O.fr hg0 F1) (hr.down 18).deeper q1 q2 ?_
  intro h2 tk2 M2
  dsimp only
  have F2 := fr_mod0 F1 M2
  have N2 := news_mod0 N1 M2
  clear N1
  walk_at "bf steps"
  have Bl := Bl.mod M2 (fun z => nomatch z) (fun z => nomatch z) (fun z => nomatch z)
  obtain ⟨v1, v2, v3, v4, v5, v6, v7, v8, bsv, bsi, nn, q1, q2, q3, q4, q5⟩ := id Bl
  refine prop_bl_est (h₀ := h₀) (O.fr hg0 F2) (hr.down 18).deeper q1 q2 ?_
  intro h3 tk3 M3
  dsimp only
  have F3 := fr_mod0 F2 M3
  have N3 := news_mod0 N2 M3
  clear N2
  walk_at "bf steps"
  rename_i h4 F4 N4
  refine prop_rot_cur (h₀ := h₀) (bs := b0 :: bs1) (O.fr hg0 F4) (hr.down 18).deeper (At.ofNews hg0 N4 (.head _)) (At.ofNews hg0 N4 (.tail _ (.head _))) (At.ofNews hg0 N4 (.tail _ (.tail _ (.head _)))) hsz ?_
  intro tn h5 tk5 M5
  dsimp only
  have F5 := fr_mod0 F4 M5
  have N5 := news_mod0 N4 M5
  clear N4
  walk_at "bf steps"
  · rename_i h6 F6 N6 hc2
    refine wpAny_call ?_
    refine addb_rot (h₀ := h₀) (D := D) (bs := b0 :: bs1) (O.fr hg0 F6) (hr.down 4).deeper ok (At.ofNews hg0 N6 (.head _)) (At.ofNews hg0 N6 (.tail _ (.head _))) (At.ofNews hg0 N6 (.tail _ (.tail _ (.head _)))) hsz ?_
    intro x dx l n' h7 tk7 M7 nx nd nl aL aB
    have MX : Mod [L] s.heap h6 := mod_of [L] hg2 F6 N6 Al (fun p hp hW => by
      rcases List.mem_cons.mp hp with rfl | hp
      · exact .head _
      rcases List.mem_cons.mp hp with rfl | hp
      · exact .tail _ (.head _)
      rcases List.mem_cons.mp hp with rfl | hp
      · exact absurd (List.mem_singleton.mpr rfl) hW
      · cases hp)
    have gL := (N6 _ (.tail _ (.tail _ (.head _)))).1
    have F7 := fr_mod F6 M7 (by simpa using (N6 _ (.tail _ (.tail _ (.head _)))).2.1.symm) (by simpa using (N6 _ (.tail _ (.tail _ (.head _)))).2.2)
    dsimp only at *
    clear N6
    walk_at "bf steps"
    refine ret _ n' h7 _ (MX.trans M7) aL ?_ ?_
    · intro b hb
      rcases List.mem_append.mp hb with hb | hb
      · have hb' : b ∈ b0 :: bs1 := by simp [hb]
        have k : ∀ a ∈ [b.x, b.dx, b.l], a ∉ [L] := fun a ha z => hnd (List.mem_flatMap.mpr ⟨b, hb', (List.mem_singleton.mp z) ▸ ha⟩)
        exact (B b hb').mod (MX.trans M7) (k _ (.head _)) (k _ (.tail _ (.head _))) (k _ (.tail _ (.tail _ (.head _))))
      · rw [List.mem_singleton.mp hb]
        exact aB
    · rw [if_pos trivial]
      refine ⟨⟨x, dx, l, 0, fun _ => false⟩, ⟨none_ofL MX gL nx, none_ofL MX gL nd, none_ofL MX gL nl, rfl, rfl⟩, ?_⟩
      rw [if_pos (by have := of_decide_eq_true hc2; exact this)]
      try rfl
  · rename_i hc2 h9 h6 F6 N6
    refine wpAny_call ?_
    refine addb_rot (h₀ := h₀) (D := D) (bs := bs1) (O.fr hg0 F6) (hr.down 4).deeper ok (At.ofNews hg0 N6 (.head _)) (At.ofNews hg0 N6 (.tail _ (.head _))) (At.ofNews hg0 N6 (.tail _ (.tail _ (.head _)))) (by simp at hsz; omega) ?_
    intro x dx l n' h7 tk7 M7 nx nd nl aL aB
    have MX : Mod [L] s.heap h6 := mod_of [L] hg2 F6 N6 Al (fun p hp hW => by
      rcases List.mem_cons.mp hp with rfl | hp
      · exact .head _
      rcases List.mem_cons.mp hp with rfl | hp
      · exact .tail _ (.head _)
      rcases List.mem_cons.mp hp with rfl | hp
      · exact absurd (List.mem_singleton.mpr rfl) hW
      · cases hp)
    have gL := (N6 _ (.tail _ (.tail _ (.head _)))).1
    have F7 := fr_mod F6 M7 (by simpa using (N6 _ (.tail _ (.tail _ (.head _)))).2.1.symm) (by simpa using (N6 _ (.tail _ (.tail _ (.head _)))).2.2)
    dsimp only at *
    clear N6
    walk_at "bf steps"
    refine ret _ n' h7 _ (MX.trans M7) aL ?_ ?_
    · intro b hb
      rcases List.mem_append.mp hb with hb | hb
      · have hb' : b ∈ b0 :: bs1 := by simp [hb]
        have k : ∀ a ∈ [b.x, b.dx, b.l], a ∉ [L] := fun a ha z => hnd (List.mem_flatMap.mpr ⟨b, hb', (List.mem_singleton.mp z) ▸ ha⟩)
        exact (B b hb').mod (MX.trans M7) (k _ (.head _)) (k _ (.tail _ (.head _))) (k _ (.tail _ (.tail _ (.head _))))
      · rw [List.mem_singleton.mp hb]
        exact aB
    · rw [if_pos trivial]
      refine ⟨⟨x, dx, l, 0, fun _ => false⟩, ⟨none_ofL MX gL nx, none_ofL MX gL nd, none_ofL MX gL nl, rfl, rfl⟩, ?_⟩
      rw [if_neg (by intro z; exact hc2 (decide_eq_true z))]
      try rfl
end
section
def BH.put (D : BD) (hs : List Int) (b : BH) : BH := { b with cnt := b.cnt + 1, p := fun q => b.p q || (hs.take D.nh).any fun y => decide ((y.fmod D.bits).toNat = q) }
def putLast (D : BD) (hs : List Int) (bs : List BH) (hne : bs ≠ []) : List BH := bs.dropLast ++ [(bs.getLast hne).put D hs]
abbrev filO (r : Option Int) (de L : Addr) (hf : Value) (est bits added : Int) (t1 t2 t3 t4 : Tok) : Obj :=
  match r with
  | none => expO de L hf est bits added t1 t2 t3
  | some q => rotO de L hf est bits added q t1 t2 t3 t4
def Fil (r : Option Int) (D : BD) (h₀ h : Heap) (e de L : Addr) (added : Int) (bs : List BH) : Prop :=
  ∃ (t1 t2 t3 t4 : Tok) (n : Nat), At h₀ h e (filO r de L D.hf D.est D.bits added t1 t2 t3 t4) ∧ At h₀ h de (dictOf [] 0) ∧ At h₀ h L (listO (refs bs) n) ∧ IsBlooms D h₀ h bs ∧ (L :: feet bs).Nodup ∧ bs ≠ []
def Grow (r : Option Int) (D : BD) (f : Bool) (h : Heap) (bs bs' : List BH) : Prop := ∃ hne : bs ≠ [], match r with
  | none => if f = true ∨ D.est ≤ (bs.getLast hne).cnt then ∃ b, FreshB h b ∧ bs' = bs ++ [b] else bs' = bs
  | some q => if f = true ∨ D.est = (bs.getLast hne).cnt then ∃ b, FreshB h b ∧ bs' = (if (bs.length : Int) < q then bs else bs.tail) ++ [b] else bs' = bs
def Own (h : Heap) (bs bs' : List BH) : Prop := ∀ a ∈ feet bs', a ∈ feet bs ∨ h.get? a = none
theorem mem_feet {bs : List BH} {b : BH} (h : b ∈ bs) : b.x ∈ feet bs ∧ b.dx ∈ feet bs ∧ b.l ∈ feet bs :=
  ⟨List.mem_flatMap.mpr ⟨b, h, .head _⟩, List.mem_flatMap.mpr ⟨b, h, .tail _ (.head _)⟩, List.mem_flatMap.mpr ⟨b, h, .tail _ (.tail _ (.head _))⟩⟩
theorem feet_app (bs cs : List BH) : feet (bs ++ cs) = feet bs ++ feet cs := List.flatMap_append ..
theorem feet_one (b : BH) : feet [b] = [b.x, b.dx, b.l] := rfl
theorem feet_at {D : BD} {h₀ h : Heap} {bs : List BH} (B : IsBlooms D h₀ h bs) : ∀ a ∈ feet bs, ∃ o, At h₀ h a o := by
  intro a ha
  obtain ⟨b, hb, hm⟩ := List.mem_flatMap.mp ha
  obtain ⟨_, _, _, _, _, _, _, _, _, _, _, q1, q2, q3, _⟩ := B b hb
  rcases List.mem_cons.mp hm with rfl | hm
  · exact ⟨_, q1⟩
  rcases List.mem_cons.mp hm with rfl | hm
  · exact ⟨_, q2⟩
  rcases List.mem_cons.mp hm with rfl | hm
  · exact ⟨_, q3⟩
  · cases hm
theorem Grow.sub {r : Option Int} {D : BD} {f : Bool} {h : Heap} {bs bs' : List BH} (g : Grow r D f h bs bs') : ∀ b ∈ bs', b ∈ bs ∨ FreshB h b := by
  obtain ⟨hne, g⟩ := g
  intro b hb
  have key : ∀ (c : Prop) [Decidable c] (cs : List BH), (∀ x ∈ cs, x ∈ bs) → (if c then ∃ b, FreshB h b ∧ bs' = cs ++ [b] else bs' = bs) → b ∈ bs ∨ FreshB h b := by
    intro c _ cs hcs g
    by_cases q : c
    · rw [if_pos q] at g
      obtain ⟨b', hf, rfl⟩ := g
      rcases List.mem_append.mp hb with hb | hb
      · exact .inl (hcs _ hb)
      · exact .inr (List.mem_singleton.mp hb ▸ hf)
    · rw [if_neg q] at g
      exact .inl (g ▸ hb)
  cases r with
  | none => exact key _ bs (fun _ z => z) g
  | some q =>
    refine key _ _ (fun x hx => ?_) g
    by_cases z : (bs.length : Int) < q
    · rwa [if_pos z] at hx
    · rw [if_neg z] at hx; exact List.mem_of_mem_tail hx
theorem Grow.ne {r : Option Int} {D : BD} {f : Bool} {h : Heap} {bs bs' : List BH} (g : Grow r D f h bs bs') : bs' ≠ [] := by
  obtain ⟨hne, g⟩ := g
  have key : ∀ (c : Prop) [Decidable c] (cs : List BH), (if c then ∃ b, FreshB h b ∧ bs' = cs ++ [b] else bs' = bs) → bs' ≠ [] := by
    intro c _ cs g
    by_cases q : c
    · rw [if_pos q] at g
      obtain ⟨b', hf, rfl⟩ := g
      simp
    · rw [if_neg q] at g
      exact g ▸ hne
  cases r with
  | none => exact key _ _ g
  | some q => exact key _ _ g
theorem Grow.len {r : Option Int} {D : BD} {f : Bool} {h : Heap} {bs bs' : List BH} (g : Grow r D f h bs bs') : bs'.length ≤ bs.length + 1 := by
  obtain ⟨hne, g⟩ := g
  have key : ∀ (c : Prop) [Decidable c] (cs : List BH), cs.length ≤ bs.length → (if c then ∃ b, FreshB h b ∧ bs' = cs ++ [b] else bs' = bs) → bs'.length ≤ bs.length + 1 := by
    intro c _ cs hcs g
    by_cases q : c
    · rw [if_pos q] at g
      obtain ⟨b', hf, rfl⟩ := g
      simp
      omega
    · rw [if_neg q] at g
      rw [g]; omega
  cases r with
  | none => exact key _ bs (Nat.le_refl _) g
  | some q =>
    refine key _ _ ?_ g
    by_cases z : (bs.length : Int) < q
    · rw [if_pos z]; exact Nat.le_refl _
    · rw [if_neg z, List.length_tail]; omega
theorem Grow.own {r : Option Int} {D : BD} {f : Bool} {h : Heap} {bs bs' : List BH} (g : Grow r D f h bs bs') : Own h bs bs' := by
  intro a ha
  obtain ⟨b, hb, hm⟩ := List.mem_flatMap.mp ha
  rcases g.sub b hb with q | ⟨f1, f2, f3, _, _⟩
  · exact .inl (List.mem_flatMap.mpr ⟨b, q, hm⟩)
  · right
    rcases List.mem_cons.mp hm with rfl | hm
    · exact f1
    rcases List.mem_cons.mp hm with rfl | hm
    · exact f2
    rcases List.mem_cons.mp hm with rfl | hm
    · exact f3
    · cases hm
theorem fresh_nodup {D : BD} {h₀ h h' : Heap} {L : Addr} {o : Obj} {cs : List BH} {b : BH} (hL : h.get? L = some o) (B : ∀ a ∈ feet cs, ∃ o, h.get? a = some o) (n : (L :: feet cs).Nodup) (f : FreshB h b) (q : IsBloom D h₀ h' b.x b.dx b.l b.cnt b.p) : (L :: feet (cs ++ [b])).Nodup := by
  obtain ⟨f1, f2, f3, _, _⟩ := f
  obtain ⟨_, _, _, _, _, _, _, _, _, _, _, q1, q2, q3, _⟩ := q
  have e : L :: feet (cs ++ [b]) = (L :: feet cs) ++ [b.x, b.dx, b.l] := by rw [feet_app, feet_one]; rfl
  rw [e, List.nodup_append]
  refine ⟨n, ?_, ?_⟩
  · have d1 : b.x ≠ b.dx := fun z => At.clash q1 (z ▸ q2)
    have d2 : b.x ≠ b.l := fun z => At.clash q1 (z ▸ q3)
    have d3 : b.dx ≠ b.l := fun z => At.clash q2 (z ▸ q3)
    simp [d1, d2, d3]
  · intro a ha c hc hac
    have : ∃ o, h.get? a = some o := by
      rcases List.mem_cons.mp ha with rfl | ha
      · exact ⟨_, hL⟩
      · exact B a ha
    obtain ⟨o', ho'⟩ := this
    rcases List.mem_cons.mp hc with rfl | hc
    · rw [hac, f1] at ho'; cases ho'
    rcases List.mem_cons.mp hc with rfl | hc
    · rw [hac, f2] at ho'; cases ho'
    rcases List.mem_cons.mp hc with rfl | hc
    · rw [hac, f3] at ho'; cases ho'
    · cases hc
theorem Grow.nodup {r : Option Int} {D : BD} {f : Bool} {h₀ h h' : Heap} {L : Addr} {o : Obj} {bs bs' : List BH} (g : Grow r D f h bs bs') (hL : h.get? L = some o) (B : IsBlooms D h₀ h bs) (n : (L :: feet bs).Nodup) (B' : IsBlooms D h₀ h' bs') : (L :: feet bs').Nodup := by
  obtain ⟨hne, g⟩ := g
  have key : ∀ (c : Prop) [Decidable c] (cs : List BH), (∀ a ∈ feet cs, a ∈ feet bs) → (L :: feet cs).Nodup → (if c then ∃ b, FreshB h b ∧ bs' = cs ++ [b] else bs' = bs) → (L :: feet bs').Nodup := by
    intro c _ cs hcs nc g
    by_cases q : c
    · rw [if_pos q] at g
      obtain ⟨b', hf, rfl⟩ := g
      exact fresh_nodup hL (fun a ha => let ⟨o, z⟩ := feet_at B a (hcs a ha); ⟨o, z.1⟩) nc hf (B' b' (by simp))
    · rw [if_neg q] at g
      rw [g]; exact n
  cases r with
  | none => exact key _ bs (fun _ z => z) n g
  | some q =>
    refine key _ _ (fun x hx => ?_) ?_ g
    · by_cases z : (bs.length : Int) < q
      · rwa [if_pos z] at hx
      · rw [if_neg z] at hx
        obtain ⟨b, hb, hm⟩ := List.mem_flatMap.mp hx
        exact List.mem_flatMap.mpr ⟨b, List.mem_of_mem_tail hb, hm⟩
    · by_cases z : (bs.length : Int) < q
      · rwa [if_pos z]
      · rw [if_neg z]
        cases bs with
        | nil => exact n
        | cons b bs =>
          show (L :: feet bs).Nodup
          have e : L :: feet (b :: bs) = [L, b.x, b.dx, b.l] ++ feet bs := rfl
          rw [e] at n
          refine List.Nodup.sublist ?_ n
          exact List.Sublist.cons_cons _ (.cons _ (.cons _ (.cons _ (.refl _))))
theorem refs_put {D : BD} {hs : List Int} {bs : List BH} (hne : bs ≠ []) : refs (putLast D hs bs hne) = refs bs := by
  have e : refs (putLast D hs bs hne) = refs (bs.dropLast ++ [bs.getLast hne]) := by simp [putLast, refs, BH.put]
  rw [e, List.dropLast_concat_getLast hne]
theorem feet_put {D : BD} {hs : List Int} {bs : List BH} (hne : bs ≠ []) : feet (putLast D hs bs hne) = feet bs := by
  have e : feet (putLast D hs bs hne) = feet (bs.dropLast ++ [bs.getLast hne]) := by
    rw [putLast, feet_app, feet_app]
    rfl
  rw [e, List.dropLast_concat_getLast hne]
theorem put_ne {D : BD} {hs : List Int} {bs : List BH} (hne : bs ≠ []) : putLast D hs bs hne ≠ [] := by simp [putLast]
theorem blooms_put {D : BD} {hs : List Int} {bs : List BH} {h₀ h h' : Heap} {L : Addr} (hne : bs ≠ []) (B : IsBlooms D h₀ h bs) (n : (L :: feet bs).Nodup) (M : Mod [(bs.getLast hne).x, (bs.getLast hne).l] h h')
    (q : IsBloom D h₀ h' (bs.getLast hne).x (bs.getLast hne).dx (bs.getLast hne).l ((bs.getLast hne).put D hs).cnt ((bs.getLast hne).put D hs).p) : IsBlooms D h₀ h' (putLast D hs bs hne) := by
  intro b hb
  rcases List.mem_append.mp hb with hb | hb
  · have e : feet bs = feet bs.dropLast ++ [(bs.getLast hne).x, (bs.getLast hne).dx, (bs.getLast hne).l] := by
      have e : feet bs = feet (bs.dropLast ++ [bs.getLast hne]) := by rw [List.dropLast_concat_getLast hne]
      rw [e, feet_app, feet_one]
    have n2 := (List.nodup_cons.mp n).2
    rw [e, List.nodup_append] at n2
    have d := n2.2.2
    obtain ⟨m1, m2, m3⟩ := mem_feet hb
    have k : ∀ a ∈ feet bs.dropLast, a ∉ [(bs.getLast hne).x, (bs.getLast hne).l] := fun a ha z => by
      rcases List.mem_cons.mp z with z | z
      · exact d a ha _ (.head _) z
      · exact d a ha _ (.tail _ (.tail _ (.head _))) (List.mem_singleton.mp z)
    exact (B b (List.dropLast_subset _ hb)).mod M (k _ m1) (k _ m2) (k _ m3)
  · rw [List.mem_singleton.mp hb]
    exact q
end
section
theorem none_ofW {h h' : Heap} {a : Addr} {W : List Addr} (M : Mod W h h') (hW : ∀ a ∈ W, ∃ o, h'.get? a = some o) (q : h'.get? a = none) : h.get? a = none := by
  cases e : h.get? a with
  | none => rfl
  | some o' =>
    by_cases z : a ∈ W
    · obtain ⟨o, ho⟩ := hW a z
      rw [ho] at q; cases q
    · rw [M a o' z e] at q; cases q
theorem FreshB.back {h h' : Heap} {W : List Addr} {b : BH} (M : Mod W h h') (hW : ∀ a ∈ W, ∃ o, h'.get? a = some o) (f : FreshB h' b) : FreshB h b :=
  let ⟨a, b, c, d, e⟩ := f; ⟨none_ofW M hW a, none_ofW M hW b, none_ofW M hW c, d, e⟩
theorem grow_of {c c' : Prop} [Decidable c] [Decidable c'] {h h' : Heap} {bs1 bs cs : List BH} (hc : c ↔ c') (k : ∀ b, FreshB h b → FreshB h' b) (g : if c then ∃ b, FreshB h b ∧ bs1 = cs ++ [b] else bs1 = bs) :
    if c' then ∃ b, FreshB h' b ∧ bs1 = cs ++ [b] else bs1 = bs := by
  by_cases z : c
  · rw [if_pos z] at g
    rw [if_pos (hc.mp z)]
    obtain ⟨b, f, e⟩ := g
    exact ⟨b, k b f, e⟩
  · rw [if_neg z] at g
    rwa [if_neg (fun q => z (hc.mpr q))]
theorem not_feet {D : BD} {h₀ h : Heap} {bs : List BH} {a : Addr} {o : Obj} (B : IsBlooms D h₀ h bs) (x : At h₀ h a o) (e1 : (Kind o == 325) = false := by rfl) (e2 : (Kind o == 2) = false := by rfl) (e3 : (Kind o == 1) = false := by rfl) : a ∉ feet bs := by
  intro ha
  obtain ⟨b, hb, hm⟩ := List.mem_flatMap.mp ha
  obtain ⟨_, _, _, _, _, _, _, _, _, _, _, q1, q2, q3, _⟩ := B b hb
  rcases List.mem_cons.mp hm with rfl | hm
  · exact At.clash x q1 e1
  rcases List.mem_cons.mp hm with rfl | hm
  · exact At.clash x q2 e2
  rcases List.mem_cons.mp hm with rfl | hm
  · exact At.clash x q3 e3
  · cases hm
theorem ints_ne {h₀ h : Heap} {hl a : Addr} {o : Obj} {hs : List Int} (I : IsInts h₀ h hl hs) (x : At h₀ h a o) (e : (Kind o == 1) = false := by rfl) : hl ≠ a := fun z => by
  obtain ⟨vs, k, y, _⟩ := I
  rw [z] at y
  exact At.clash x y e
theorem news_tail {g h : Heap} {L : Addr} {p : Addr × Obj} {news : List (Addr × Obj)} (N : News g L h (p :: news)) : News g L h news := fun q hq => N q (.tail _ hq)
theorem put_end {r : Option Int} {D : BD} {hs : List Int} {h₀ h h3 h4 : Heap} {e de L : Addr} {bs bs1 : List BH} {added : Int} {n1 : Nat} {W : List Addr} {t1 t2 t3 t4 : Tok} {tb : Array Value} (hne1 : bs1 ≠ [])
    (M : Mod W h h3) (hW : ∀ a ∈ W, a ∈ 418 :: e :: L :: feet bs) (own : Own h bs bs1) (B3 : IsBlooms D h₀ h3 bs1) (nd : (L :: feet bs1).Nodup)
    (a1 : At h₀ h3 418 (tabObj tb)) (a2 : At h₀ h3 e (filO r de L D.hf D.est D.bits added t1 t2 t3 t4)) (a3 : At h₀ h3 de (dictOf [] 0)) (a4 : At h₀ h3 L (listO (refs bs1) n1)) (hk : (Kind (filO r de L D.hf D.est D.bits added t1 t2 t3 t4) == 325) = false ∧ (Kind (filO r de L D.hf D.est D.bits added t1 t2 t3 t4) == 1) = false)
    (M4 : Mod [(bs1.getLast hne1).x, (bs1.getLast hne1).l] h3 h4)
    (q : IsBloom D h₀ h4 (bs1.getLast hne1).x (bs1.getLast hne1).dx (bs1.getLast hne1).l ((bs1.getLast hne1).put D hs).cnt ((bs1.getLast hne1).put D hs).p) (htb : tb = #[] ∨ ∃ c', tb = #[rawInt 221, rawInt 19, .ref c']) :
    Mod (418 :: e :: L :: feet bs) h h4 ∧ Tab h₀ h4 ∧ Fil r D h₀ h4 e de L added (putLast D hs bs1 hne1) ∧ Own h bs (putLast D hs bs1 hne1) := by
  obtain ⟨m1, m2, m3⟩ := mem_feet (List.getLast_mem hne1)
  obtain ⟨_, _, _, _, _, _, _, _, _, _, _, q1, q2, q3, _⟩ := B3 _ (List.getLast_mem hne1)
  have k : ∀ a o, At h₀ h3 a o → (Kind o == 325) = false → a ≠ (bs1.getLast hne1).l → a ∉ [(bs1.getLast hne1).x, (bs1.getLast hne1).l] := fun a o x e1 e2 z => by
    rcases List.mem_cons.mp z with rfl | z
    · exact At.clash x q1 e1
    · exact e2 (List.mem_singleton.mp z)
  have kL : L ≠ (bs1.getLast hne1).l := fun z => (List.nodup_cons.mp nd).1 (z ▸ m3)
  refine ⟨fun a o ha ho => ?_, ⟨tb, a1.mod M4 (k _ _ a1 rfl (fun z => At.clash a1 (z ▸ q3))), htb⟩, ?_, fun a ha => own a (feet_put hne1 ▸ ha)⟩
  · have h3a := M a o (fun z => ha (hW a z)) ho
    refine M4 a o (fun z => ?_) h3a
    have : a ∈ feet bs1 := by
      rcases List.mem_cons.mp z with rfl | z
      · exact m1
      · exact (List.mem_singleton.mp z) ▸ m3
    rcases own a this with y | y
    · exact ha (.tail _ (.tail _ (.tail _ y)))
    · rw [y] at ho; cases ho
  · refine ⟨t1, t2, t3, t4, n1, a2.mod M4 (k _ _ a2 hk.1 (fun z => by rw [z] at a2; exact At.clash a2 q3 hk.2)), a3.mod M4 (k _ _ a3 rfl (fun z => At.clash a3 (z ▸ q3))), ?_, blooms_put hne1 B3 nd M4 q, ?_, put_ne hne1⟩
    · rw [refs_put]
      exact a4.mod M4 (k _ _ a4 rfl kL)
    · rw [feet_put]; exact nd
end
section
theorem addalt_exp_true {w : World} {A : Around} {R : Result → Shared → Prop} {s : Shared} {h₀ : Heap} {D : BD} {e de L hl : Addr} {added q : Int} {hs : List Int}
    {bs : List BH} 
    (O : On w h₀ s.heap) (hr : Room A 40) (ok : D.Ok) (Z : Fil none D h₀ s.heap e de L added bs) (I : IsInts h₀ s.heap hl hs) (hnh : D.nh ≤ hs.length) (hhl : hl ∉ feet bs) (hhL : hl ≠ L) (TB : Tab h₀ s.heap) (hsz : bs.length < 900)
    (ret : ∀ bs1 bs' s', Aft (418 :: e :: L :: feet bs) s s' → Tab h₀ s'.heap → Fil none D h₀ s'.heap e de L (added + 1) bs' → Own s.heap bs bs' → (∀ b ∈ bs1, b ∈ bs ∨ FreshB s.heap b) →
      (Grow none D false s.heap bs bs1 ∧ ∃ hne, bs' = putLast D hs bs1 hne) →
      R (.ok (.ret .none)) s') :
    codeAny (model PySem.Challenge.rw_sv0019_01.row.prog w) A (.call (.ref 439) ⟨[.ref e, .ref hl, .bool true], []⟩) R s := by
  obtain ⟨hd0, dp0, fr0, gd0, un0⟩ := A
  obtain rfl : hd0 = none := hr.hd
  obtain ⟨t1, t2, t3, t4, n, he, hd, hL, B, hnd, hne⟩ := Z
  have XS : (hd1.heap_39 w.params).In s.heap := O.wd.1.keeps O.stays
  obtain ⟨tb, hT, hTb⟩ := TB
  have n2 := neN (fun q : e = de => At.clash he (q ▸ hd))
  have n3 := neN (fun q : e = L => At.clash he (q ▸ hL))
  have n4 := neN (fun q : de = L => At.clash hd (q ▸ hL))
  have n5 := neN (fun q : e = 418 => At.clash he (q ▸ hT))
  have n6 := neN (fun q : de = 418 => At.clash hd (q ▸ hT))
  have n7 := neN (fun q : L = 418 => At.clash hL (q ▸ hT))
  have Al : AllAt h₀ s.heap [(418, tabObj tb), (e, expO de L D.hf D.est D.bits added t1 t2 t3), (de, dictOf [] 0), (L, listO (refs bs) n)] :=
    List.forall_mem_cons.mpr ⟨hT, List.forall_mem_cons.mpr ⟨he, List.forall_mem_cons.mpr ⟨hd, List.forall_mem_cons.mpr ⟨hL, List.forall_mem_nil _⟩⟩⟩⟩
  walk_at "bf enter"
  intro g L' h₁ p₁ loose mean mg mb hg0 hg2 F N X T
  (try dsimp only); (try k_fold)
  walk_at "bf steps"
  rename_i h1 F1 N1
  have MA : Mod [e] s.heap h1 := mod_of [e] hg2 F1 N1 Al (fun p hp hW => by
    rcases List.mem_cons.mp hp with rfl | hp
    · exact .head _
    rcases List.mem_cons.mp hp with rfl | hp
    · exact absurd (List.mem_singleton.mpr rfl) hW
    rcases List.mem_cons.mp hp with rfl | hp
    · exact .tail _ (.tail _ (.head _))
    rcases List.mem_cons.mp hp with rfl | hp
    · exact .tail _ (.tail _ (.tail _ (.head _)))
    · cases hp)
  have ef : e ∉ feet bs := not_feet B he
  have B1 : IsBlooms D h₀ h1 bs := B.mod MA (fun a ha z => ef ((List.mem_singleton.mp z) ▸ ha))
  have I1 : IsInts h₀ h1 hl hs := I.mod MA (fun z => (ints_ne I he) (List.mem_singleton.mp z))
  refine wpAny_call ?_
  have hW : ∀ a ∈ [e], ∃ o, h1.get? a = some o := fun a z => by
      rw [List.mem_singleton.mp z]; exact ⟨_, (N1 _ (.tail _ (.head _))).1⟩
  have hf : L ∉ feet bs := (List.nodup_cons.mp hnd).1
  have nh : hl ∉ [L] := fun z => hhL (List.mem_singleton.mp z)
  refine grow_exp (h₀ := h₀) (D := D) hne (O.fr hg0 F1) (hr.down 14).deeper ok (At.ofNews hg0 N1 (.tail _ (.head _))) (At.ofNews hg0 N1 (.tail _ (.tail _ (.head _)))) (At.ofNews hg0 N1 (.tail _ (.tail _ (.tail _ (.head _))))) B1 (Nat.lt_trans hsz (by decide)) hf ?_
  intro bs1 n1 h3 tk3 M3 aL3 B3 G3
  have G : Grow none D false s.heap bs bs1 := ⟨hne, grow_of (by simp) (fun b z => z.back MA hW) G3⟩
  clear G3
  have F3 := fr_mod F1 M3 (by simpa using (N1 _ (.tail _ (.tail _ (.tail _ (.head _))))).2.1.symm) (by simpa using (N1 _ (.tail _ (.tail _ (.tail _ (.head _))))).2.2)
  have N3 := news_add (news_mod (fun p (hp : p ∈ [_, _, _]) => N1 p (by
      rcases List.mem_cons.mp hp with rfl | hp
      · exact .head _
      rcases List.mem_cons.mp hp with rfl | hp
      · exact .tail _ (.head _)
      rcases List.mem_cons.mp hp with rfl | hp
      · exact .tail _ (.tail _ (.head _))
      · cases hp)) M3 (by simp [n3, n4, n7, n7.symm, n3.symm, n4.symm])) aL3.1 (N1 _ (.tail _ (.tail _ (.tail _ (.head _))))).2
  have I3 : IsInts h₀ h3 hl hs := I1.mod M3 nh
  have hne1 := G.ne
  have nd1 : (L :: feet bs1).Nodup := G.nodup hL.1 B hnd B3
  dsimp only at *
  clear N1
  have X3 : (hd1.heap_39 w.params).In h3 := X.keeps F3.keep
  have q9 := B3 _ (List.getLast_mem hne1)
  obtain ⟨v1, v2, v3, v4, v5, v6, v7, v8, bsv, bsi, nn, q1, q2, q3, q4, q5⟩ := id q9
  have q1' := q1.1
  have q2' := q2.1
  walk_at "bf steps"
  have ne9 : hl ≠ (bs1.getLast hne1).l := fun z => by
    rcases G.own _ (mem_feet (List.getLast_mem hne1)).2.2 with y | y
    · exact hhl (z ▸ y)
    · obtain ⟨_, _, z9, _⟩ := id I
      rw [← z, z9.1] at y; cases y
  have M13 : Mod ([L, e]) s.heap h3 := fun a o ha ho => M3 a o (fun z => ha (by rw [List.mem_singleton.mp z]; simp)) (MA a o (fun z => ha (by first | exact .tail _ z | simp_all)) ho)
  refine wpAny_call ?_
  refine add_alt_spec (h₀ := h₀) (D := D) (O.fr hg0 F3) (hr.down 36).deeper ok q9 I3 hnh ne9 ?_
  intro h4 tk4 M4 B4
  have P := put_end (r := none) (D := D) (hs := hs) (bs := bs) (t4 := t1) hne1 M13 (by simp) G.own B3 nd1 (At.ofNews hg0 N3 (.tail _ (.head _))) (At.ofNews hg0 N3 (.tail _ (.tail _ (.head _)))) (At.ofNews hg0 N3 (.tail _ (.tail _ (.tail _ (.head _))))) aL3 ⟨rfl, rfl⟩ M4 B4 hTb
  clear N3
  dsimp only at *
  walk_at "bf steps"
  refine ret bs1 _ { heap := h4, gens := s.gens, drawn := s.drawn, toks := _, os := s.os } ⟨P.1, rfl, rfl, id⟩ P.2.1 P.2.2.1 P.2.2.2 G.sub ?_
  exact ⟨G, hne1, rfl⟩
theorem addalt_exp_false {w : World} {A : Around} {R : Result → Shared → Prop} {s : Shared} {h₀ : Heap} {D : BD} {e de L hl : Addr} {added q : Int} {hs : List Int}
    {bs : List BH} 
    (O : On w h₀ s.heap) (hr : Room A 40) (ok : D.Ok) (Z : Fil none D h₀ s.heap e de L added bs) (I : IsInts h₀ s.heap hl hs) (hnh : D.nh ≤ hs.length) (hhl : hl ∉ feet bs) (hhL : hl ≠ L) (TB : Tab h₀ s.heap) (hsz : bs.length < 900)
    (ret : ∀ bs1 bs' s', Aft (418 :: e :: L :: feet bs) s s' → Tab h₀ s'.heap → Fil none D h₀ s'.heap e de L (added + 1) bs' → Own s.heap bs bs' → (∀ b ∈ bs1, b ∈ bs ∨ FreshB s.heap b) →
      (if bs.any (BH.has D hs) then bs' = bs else Grow none D false s.heap bs bs1 ∧ ∃ hne, bs' = putLast D hs bs1 hne) →
      R (.ok (.ret .none)) s') :
    codeAny (model PySem.Challenge.rw_sv0019_01.row.prog w) A (.call (.ref 439) ⟨[.ref e, .ref hl, .bool false], []⟩) R s := by
  obtain ⟨hd0, dp0, fr0, gd0, un0⟩ := A
  obtain rfl : hd0 = none := hr.hd
  obtain ⟨t1, t2, t3, t4, n, he, hd, hL, B, hnd, hne⟩ := Z
  have XS : (hd1.heap_39 w.params).In s.heap := O.wd.1.keeps O.stays
  obtain ⟨tb, hT, hTb⟩ := TB
  have n2 := neN (fun q : e = de => At.clash he (q ▸ hd))
  have n3 := neN (fun q : e = L => At.clash he (q ▸ hL))
  have n4 := neN (fun q : de = L => At.clash hd (q ▸ hL))
  have n5 := neN (fun q : e = 418 => At.clash he (q ▸ hT))
  have n6 := neN (fun q : de = 418 => At.clash hd (q ▸ hT))
  have n7 := neN (fun q : L = 418 => At.clash hL (q ▸ hT))
  have Al : AllAt h₀ s.heap [(418, tabObj tb), (e, expO de L D.hf D.est D.bits added t1 t2 t3), (de, dictOf [] 0), (L, listO (refs bs) n)] :=
    List.forall_mem_cons.mpr ⟨hT, List.forall_mem_cons.mpr ⟨he, List.forall_mem_cons.mpr ⟨hd, List.forall_mem_cons.mpr ⟨hL, List.forall_mem_nil _⟩⟩⟩⟩
  walk_at "bf enter"
  intro g L' h₁ p₁ loose mean mg mb hg0 hg2 F N X T
  (try dsimp only); (try k_fold)
  walk_at "bf steps"
  rename_i h1 F1 N1
  have MA : Mod [e] s.heap h1 := mod_of [e] hg2 F1 N1 Al (fun p hp hW => by
    rcases List.mem_cons.mp hp with rfl | hp
    · exact .head _
    rcases List.mem_cons.mp hp with rfl | hp
    · exact absurd (List.mem_singleton.mpr rfl) hW
    rcases List.mem_cons.mp hp with rfl | hp
    · exact .tail _ (.tail _ (.head _))
    rcases List.mem_cons.mp hp with rfl | hp
    · exact .tail _ (.tail _ (.tail _ (.head _)))
    · cases hp)
  have ef : e ∉ feet bs := not_feet B he
  have B1 : IsBlooms D h₀ h1 bs := B.mod MA (fun a ha z => ef ((List.mem_singleton.mp z) ▸ ha))
  have I1 : IsInts h₀ h1 hl hs := I.mod MA (fun z => (ints_ne I he) (List.mem_singleton.mp z))
  refine wpAny_call ?_
  refine checkalt_exp (h₀ := h₀) (D := D) (bs := bs) (hs := hs) (n := n) (q := 0) (t4 := t1) (O.fr hg0 F1) (hr.down 19).deeper ok (At.ofNews hg0 N1 (.tail _ (.head _))) (At.ofNews hg0 N1 (.tail _ (.tail _ (.head _)))) (At.ofNews hg0 N1 (.tail _ (.tail _ (.tail _ (.head _))))) B1 I1 hnh ⟨tb, At.ofNews hg0 N1 (.head _), hTb⟩ ?_
  intro s2 A2 T2
  obtain ⟨h2, gs2, dr2, tk2, os2⟩ := s2
  obtain ⟨A2m, A2d, A2o, A2g⟩ := A2
  obtain ⟨tb2, hT2, hTb2⟩ := T2
  have F2 := fr_mod F1 A2m (by simpa using (N1 _ (.head _)).2.1.symm) (by simpa using (N1 _ (.head _)).2.2)
  have N2 := news_add (news_mod (news_tail N1) A2m (by simp [n5.symm, n6.symm, n7.symm, n5, n6, n7])) hT2.1 (N1 _ (.head _)).2
  dsimp only at *
  subst A2d A2o
  clear N1
  have M2 : Mod [e, 418] s.heap h2 := fun a o ha ho => A2m a o (fun z => ha (.tail _ z)) (MA a o (fun z => ha ((List.mem_singleton.mp z) ▸ .head _)) ho)
  have cf : 418 ∉ feet bs := not_feet B hT
  have B2 : IsBlooms D h₀ h2 bs := B1.mod A2m (fun a ha z => cf ((List.mem_singleton.mp z) ▸ ha))
  have I2 : IsInts h₀ h2 hl hs := I1.mod A2m (fun z => (ints_ne I hT) (List.mem_singleton.mp z))
  cases hany : bs.any (BH.has D hs)
  · walk_at "bf steps"
    refine wpAny_call ?_
    have hW : ∀ a ∈ [e, 418], ∃ o, h2.get? a = some o := fun a z => by
        rcases List.mem_cons.mp z with rfl | z
        · exact ⟨_, (N2 _ (.tail _ (.head _))).1⟩
        · rw [List.mem_singleton.mp z]; exact ⟨_, (N2 _ (.head _)).1⟩
    have hf : L ∉ feet bs := (List.nodup_cons.mp hnd).1
    have nh : hl ∉ [L] := fun z => hhL (List.mem_singleton.mp z)
    refine grow_exp (h₀ := h₀) (D := D) hne (O.fr hg0 F2) (hr.down 14).deeper ok (At.ofNews hg0 N2 (.tail _ (.head _))) (At.ofNews hg0 N2 (.tail _ (.tail _ (.head _)))) (At.ofNews hg0 N2 (.tail _ (.tail _ (.tail _ (.head _))))) B2 (Nat.lt_trans hsz (by decide)) hf ?_
    intro bs1 n1 h3 tk3 M3 aL3 B3 G3
    have G : Grow none D false s.heap bs bs1 := ⟨hne, grow_of (by simp) (fun b z => z.back M2 hW) G3⟩
    clear G3
    have F3 := fr_mod F2 M3 (by simpa using (N2 _ (.tail _ (.tail _ (.tail _ (.head _))))).2.1.symm) (by simpa using (N2 _ (.tail _ (.tail _ (.tail _ (.head _))))).2.2)
    have N3 := news_add (news_mod (fun p (hp : p ∈ [_, _, _]) => N2 p (by
        rcases List.mem_cons.mp hp with rfl | hp
        · exact .head _
        rcases List.mem_cons.mp hp with rfl | hp
        · exact .tail _ (.head _)
        rcases List.mem_cons.mp hp with rfl | hp
        · exact .tail _ (.tail _ (.head _))
        · cases hp)) M3 (by simp [n3, n4, n7, n7.symm, n3.symm, n4.symm])) aL3.1 (N2 _ (.tail _ (.tail _ (.tail _ (.head _))))).2
    have I3 : IsInts h₀ h3 hl hs := I2.mod M3 nh
    have hne1 := G.ne
    have nd1 : (L :: feet bs1).Nodup := G.nodup hL.1 B hnd B3
    dsimp only at *
    clear N2
    have X3 : (hd1.heap_39 w.params).In h3 := X.keeps F3.keep
    have q9 := B3 _ (List.getLast_mem hne1)
    obtain ⟨v1, v2, v3, v4, v5, v6, v7, v8, bsv, bsi, nn, q1, q2, q3, q4, q5⟩ := id q9
    have q1' := q1.1
    have q2' := q2.1
    walk_at "bf steps"
    have ne9 : hl ≠ (bs1.getLast hne1).l := fun z => by
      rcases G.own _ (mem_feet (List.getLast_mem hne1)).2.2 with y | y
      · exact hhl (z ▸ y)
      · obtain ⟨_, _, z9, _⟩ := id I
        rw [← z, z9.1] at y; cases y
    have M13 : Mod ([L, e, 418]) s.heap h3 := fun a o ha ho => M3 a o (fun z => ha (by rw [List.mem_singleton.mp z]; simp)) (M2 a o (fun z => ha (by first | exact .tail _ z | simp_all)) ho)
    refine wpAny_call ?_
    refine add_alt_spec (h₀ := h₀) (D := D) (O.fr hg0 F3) (hr.down 36).deeper ok q9 I3 hnh ne9 ?_
    intro h4 tk4 M4 B4
    have P := put_end (r := none) (D := D) (hs := hs) (bs := bs) (t4 := t1) hne1 M13 (by simp) G.own B3 nd1 (At.ofNews hg0 N3 (.tail _ (.head _))) (At.ofNews hg0 N3 (.tail _ (.tail _ (.head _)))) (At.ofNews hg0 N3 (.tail _ (.tail _ (.tail _ (.head _))))) aL3 ⟨rfl, rfl⟩ M4 B4 hTb2
    clear N3
    dsimp only at *
    walk_at "bf steps"
    refine ret bs1 _ { heap := h4, gens := gs2, drawn := s.drawn, toks := _, os := s.os } ⟨P.1, rfl, rfl, A2g⟩ P.2.1 P.2.2.1 P.2.2.2 G.sub ?_
    rw [if_neg (by rw [hany]; decide)]
    exact ⟨G, hne1, rfl⟩
  · walk_at "bf steps"
    refine ret bs bs { heap := h2, gens := gs2, drawn := s.drawn, toks := _, os := s.os } ⟨?_, rfl, rfl, A2g⟩ ⟨tb2, hT2, hTb2⟩ ⟨_, _, _, t4, _, At.ofNews hg0 N2 (.tail _ (.head _)), At.ofNews hg0 N2 (.tail _ (.tail _ (.head _))), At.ofNews hg0 N2 (.tail _ (.tail _ (.tail _ (.head _)))), B2, hnd, hne⟩ (fun a z => .inl z) (fun b z => .inl z) ?_
    · refine M2.mono fun b z => ?_
      rcases List.mem_cons.mp z with rfl | z
      · exact .tail _ (.head _)
      · rw [List.mem_singleton.mp z]; exact .head _
    · rw [if_pos hany]
theorem addalt_rot_true {w : World} {A : Around} {R : Result → Shared → Prop} {s : Shared} {h₀ : Heap} {D : BD} {e de L hl : Addr} {added q : Int} {hs : List Int}
    {bs : List BH} 
    (O : On w h₀ s.heap) (hr : Room A 40) (ok : D.Ok) (Z : Fil (some q) D h₀ s.heap e de L added bs) (I : IsInts h₀ s.heap hl hs) (hnh : D.nh ≤ hs.length) (hhl : hl ∉ feet bs) (hhL : hl ≠ L) (TB : Tab h₀ s.heap) (hsz : bs.length < 900)
    (ret : ∀ bs1 bs' s', Aft (418 :: e :: L :: feet bs) s s' → Tab h₀ s'.heap → Fil (some q) D h₀ s'.heap e de L (added + 1) bs' → Own s.heap bs bs' → (∀ b ∈ bs1, b ∈ bs ∨ FreshB s.heap b) →
      (Grow (some q) D false s.heap bs bs1 ∧ ∃ hne, bs' = putLast D hs bs1 hne) →
      R (.ok (.ret .none)) s') :
    codeAny (model PySem.Challenge.rw_sv0019_01.row.prog w) A (.call (.ref 506) ⟨[.ref e, .ref hl, .bool true], []⟩) R s := by
  obtain ⟨hd0, dp0, fr0, gd0, un0⟩ := A
  obtain rfl : hd0 = none := hr.hd
  obtain ⟨t1, t2, t3, t4, n, he, hd, hL, B, hnd, hne⟩ := Z
  have XS : (hd1.heap_39 w.params).In s.heap := O.wd.1.keeps O.stays
  obtain ⟨tb, hT, hTb⟩ := TB
  have n2 := neN (fun q : e = de => At.clash he (q ▸ hd))
  have n3 := neN (fun q : e = L => At.clash he (q ▸ hL))
  have n4 := neN (fun q : de = L => At.clash hd (q ▸ hL))
  have n5 := neN (fun q : e = 418 => At.clash he (q ▸ hT))
  have n6 := neN (fun q : de = 418 => At.clash hd (q ▸ hT))
  have n7 := neN (fun q : L = 418 => At.clash hL (q ▸ hT))
  have Al : AllAt h₀ s.heap [(418, tabObj tb), (e, rotO de L D.hf D.est D.bits added q t1 t2 t3 t4), (de, dictOf [] 0), (L, listO (refs bs) n)] :=
    List.forall_mem_cons.mpr ⟨hT, List.forall_mem_cons.mpr ⟨he, List.forall_mem_cons.mpr ⟨hd, List.forall_mem_cons.mpr ⟨hL, List.forall_mem_nil _⟩⟩⟩⟩
  walk_at "bf enter"
  intro g L' h₁ p₁ loose mean mg mb hg0 hg2 F N X T
  (try dsimp only); (try k_fold)
  walk_at "bf steps"
  rename_i h1 F1 N1
  have MA : Mod [e] s.heap h1 := mod_of [e] hg2 F1 N1 Al (fun p hp hW => by
    rcases List.mem_cons.mp hp with rfl | hp
    · exact .head _
    rcases List.mem_cons.mp hp with rfl | hp
    · exact absurd (List.mem_singleton.mpr rfl) hW
    rcases List.mem_cons.mp hp with rfl | hp
    · exact .tail _ (.tail _ (.head _))
    rcases List.mem_cons.mp hp with rfl | hp
    · exact .tail _ (.tail _ (.tail _ (.head _)))
    · cases hp)
  have ef : e ∉ feet bs := not_feet B he
  have B1 : IsBlooms D h₀ h1 bs := B.mod MA (fun a ha z => ef ((List.mem_singleton.mp z) ▸ ha))
  have I1 : IsInts h₀ h1 hl hs := I.mod MA (fun z => (ints_ne I he) (List.mem_singleton.mp z))
  refine wpAny_call ?_
  have hW : ∀ a ∈ [e], ∃ o, h1.get? a = some o := fun a z => by
      rw [List.mem_singleton.mp z]; exact ⟨_, (N1 _ (.tail _ (.head _))).1⟩
  have hf : L ∉ feet bs := (List.nodup_cons.mp hnd).1
  have nh : hl ∉ [L] := fun z => hhL (List.mem_singleton.mp z)
  refine rot_d (h₀ := h₀) (D := D) hne (O.fr hg0 F1) (hr.down 14).deeper ok (At.ofNews hg0 N1 (.tail _ (.head _))) (At.ofNews hg0 N1 (.tail _ (.tail _ (.head _)))) (At.ofNews hg0 N1 (.tail _ (.tail _ (.tail _ (.head _))))) B1 (Nat.lt_trans hsz (by decide)) hf ?_
  intro bs1 n1 h3 tk3 M3 aL3 B3 G3
  have G : Grow (some q) D false s.heap bs bs1 := ⟨hne, grow_of (by simp) (fun b z => z.back MA hW) G3⟩
  clear G3
  have F3 := fr_mod F1 M3 (by simpa using (N1 _ (.tail _ (.tail _ (.tail _ (.head _))))).2.1.symm) (by simpa using (N1 _ (.tail _ (.tail _ (.tail _ (.head _))))).2.2)
  have N3 := news_add (news_mod (fun p (hp : p ∈ [_, _, _]) => N1 p (by
      rcases List.mem_cons.mp hp with rfl | hp
      · exact .head _
      rcases List.mem_cons.mp hp with rfl | hp
      · exact .tail _ (.head _)
      rcases List.mem_cons.mp hp with rfl | hp
      · exact .tail _ (.tail _ (.head _))
      · cases hp)) M3 (by simp [n3, n4, n7, n7.symm, n3.symm, n4.symm])) aL3.1 (N1 _ (.tail _ (.tail _ (.tail _ (.head _))))).2
  have I3 : IsInts h₀ h3 hl hs := I1.mod M3 nh
  have hne1 := G.ne
  have nd1 : (L :: feet bs1).Nodup := G.nodup hL.1 B hnd B3
  dsimp only at *
  clear N1
  have X3 : (hd1.heap_39 w.params).In h3 := X.keeps F3.keep
  have q9 := B3 _ (List.getLast_mem hne1)
  obtain ⟨v1, v2, v3, v4, v5, v6, v7, v8, bsv, bsi, nn, q1, q2, q3, q4, q5⟩ := id q9
  have q1' := q1.1
  have q2' := q2.1
  walk_at "bf steps"
  have ne9 : hl ≠ (bs1.getLast hne1).l := fun z => by
    rcases G.own _ (mem_feet (List.getLast_mem hne1)).2.2 with y | y
    · exact hhl (z ▸ y)
    · obtain ⟨_, _, z9, _⟩ := id I
      rw [← z, z9.1] at y; cases y
  have M13 : Mod ([L, e]) s.heap h3 := fun a o ha ho => M3 a o (fun z => ha (by rw [List.mem_singleton.mp z]; simp)) (MA a o (fun z => ha (by first | exact .tail _ z | simp_all)) ho)
  refine wpAny_call ?_
  refine add_alt_spec (h₀ := h₀) (D := D) (O.fr hg0 F3) (hr.down 36).deeper ok q9 I3 hnh ne9 ?_
  intro h4 tk4 M4 B4
  have P := put_end (r := (some q)) (D := D) (hs := hs) (bs := bs) hne1 M13 (by simp) G.own B3 nd1 (At.ofNews hg0 N3 (.tail _ (.head _))) (At.ofNews hg0 N3 (.tail _ (.tail _ (.head _)))) (At.ofNews hg0 N3 (.tail _ (.tail _ (.tail _ (.head _))))) aL3 ⟨rfl, rfl⟩ M4 B4 hTb
  clear N3
  dsimp only at *
  walk_at "bf steps"
  refine ret bs1 _ { heap := h4, gens := s.gens, drawn := s.drawn, toks := _, os := s.os } ⟨P.1, rfl, rfl, id⟩ P.2.1 P.2.2.1 P.2.2.2 G.sub ?_
  exact ⟨G, hne1, rfl⟩
theorem addalt_rot_false {w : World} {A : Around} {R : Result → Shared → Prop} {s : Shared} {h₀ : Heap} {D : BD} {e de L hl : Addr} {added q : Int} {hs : List Int}
    {bs : List BH} 
    (O : On w h₀ s.heap) (hr : Room A 40) (ok : D.Ok) (Z : Fil (some q) D h₀ s.heap e de L added bs) (I : IsInts h₀ s.heap hl hs) (hnh : D.nh ≤ hs.length) (hhl : hl ∉ feet bs) (hhL : hl ≠ L) (TB : Tab h₀ s.heap) (hsz : bs.length < 900)
    (ret : ∀ bs1 bs' s', Aft (418 :: e :: L :: feet bs) s s' → Tab h₀ s'.heap → Fil (some q) D h₀ s'.heap e de L (added + 1) bs' → Own s.heap bs bs' → (∀ b ∈ bs1, b ∈ bs ∨ FreshB s.heap b) →
      (if bs.any (BH.has D hs) then bs' = bs else Grow (some q) D false s.heap bs bs1 ∧ ∃ hne, bs' = putLast D hs bs1 hne) →
      R (.ok (.ret .none)) s') :
    codeAny (model PySem.Challenge.rw_sv0019_01.row.prog w) A (.call (.ref 506) ⟨[.ref e, .ref hl, .bool false], []⟩) R s := by
  obtain ⟨hd0, dp0, fr0, gd0, un0⟩ := A
  obtain rfl : hd0 = none := hr.hd
  obtain ⟨t1, t2, t3, t4, n, he, hd, hL, B, hnd, hne⟩ := Z
  have XS : (hd1.heap_39 w.params).In s.heap := O.wd.1.keeps O.stays
  obtain ⟨tb, hT, hTb⟩ := TB
  have n2 := neN (fun q : e = de => At.clash he (q ▸ hd))
  have n3 := neN (fun q : e = L => At.clash he (q ▸ hL))
  have n4 := neN (fun q : de = L => At.clash hd (q ▸ hL))
  have n5 := neN (fun q : e = 418 => At.clash he (q ▸ hT))
  have n6 := neN (fun q : de = 418 => At.clash hd (q ▸ hT))
  have n7 := neN (fun q : L = 418 => At.clash hL (q ▸ hT))
  have Al : AllAt h₀ s.heap [(418, tabObj tb), (e, rotO de L D.hf D.est D.bits added q t1 t2 t3 t4), (de, dictOf [] 0), (L, listO (refs bs) n)] :=
    List.forall_mem_cons.mpr ⟨hT, List.forall_mem_cons.mpr ⟨he, List.forall_mem_cons.mpr ⟨hd, List.forall_mem_cons.mpr ⟨hL, List.forall_mem_nil _⟩⟩⟩⟩
  walk_at "bf enter"
  intro g L' h₁ p₁ loose mean mg mb hg0 hg2 F N X T
  (try dsimp only); (try k_fold)
  walk_at "bf steps"
  rename_i h1 F1 N1
  have MA : Mod [e] s.heap h1 := mod_of [e] hg2 F1 N1 Al (fun p hp hW => by
    rcases List.mem_cons.mp hp with rfl | hp
    · exact .head _
    rcases List.mem_cons.mp hp with rfl | hp
    · exact absurd (List.mem_singleton.mpr rfl) hW
    rcases List.mem_cons.mp hp with rfl | hp
    · exact .tail _ (.tail _ (.head _))
    rcases List.mem_cons.mp hp with rfl | hp
    · exact .tail _ (.tail _ (.tail _ (.head _)))
    · cases hp)
  have ef : e ∉ feet bs := not_feet B he
  have B1 : IsBlooms D h₀ h1 bs := B.mod MA (fun a ha z => ef ((List.mem_singleton.mp z) ▸ ha))
  have I1 : IsInts h₀ h1 hl hs := I.mod MA (fun z => (ints_ne I he) (List.mem_singleton.mp z))
  refine wpAny_call ?_
  refine checkalt_rot (h₀ := h₀) (D := D) (bs := bs) (hs := hs) (n := n) (O.fr hg0 F1) (hr.down 19).deeper ok (At.ofNews hg0 N1 (.tail _ (.head _))) (At.ofNews hg0 N1 (.tail _ (.tail _ (.head _)))) (At.ofNews hg0 N1 (.tail _ (.tail _ (.tail _ (.head _))))) B1 I1 hnh ⟨tb, At.ofNews hg0 N1 (.head _), hTb⟩ ?_
  intro s2 A2 T2
  obtain ⟨h2, gs2, dr2, tk2, os2⟩ := s2
  obtain ⟨A2m, A2d, A2o, A2g⟩ := A2
  obtain ⟨tb2, hT2, hTb2⟩ := T2
  have F2 := fr_mod F1 A2m (by simpa using (N1 _ (.head _)).2.1.symm) (by simpa using (N1 _ (.head _)).2.2)
  have N2 := news_add (news_mod (news_tail N1) A2m (by simp [n5.symm, n6.symm, n7.symm, n5, n6, n7])) hT2.1 (N1 _ (.head _)).2
  dsimp only at *
  subst A2d A2o
  clear N1
  have M2 : Mod [e, 418] s.heap h2 := fun a o ha ho => A2m a o (fun z => ha (.tail _ z)) (MA a o (fun z => ha ((List.mem_singleton.mp z) ▸ .head _)) ho)
  have cf : 418 ∉ feet bs := not_feet B hT
  have B2 : IsBlooms D h₀ h2 bs := B1.mod A2m (fun a ha z => cf ((List.mem_singleton.mp z) ▸ ha))
  have I2 : IsInts h₀ h2 hl hs := I1.mod A2m (fun z => (ints_ne I hT) (List.mem_singleton.mp z))
  cases hany : bs.any (BH.has D hs)
  · walk_at "bf steps"
    refine wpAny_call ?_
    have hW : ∀ a ∈ [e, 418], ∃ o, h2.get? a = some o := fun a z => by
        rcases List.mem_cons.mp z with rfl | z
        · exact ⟨_, (N2 _ (.tail _ (.head _))).1⟩
        · rw [List.mem_singleton.mp z]; exact ⟨_, (N2 _ (.head _)).1⟩
    have hf : L ∉ feet bs := (List.nodup_cons.mp hnd).1
    have nh : hl ∉ [L] := fun z => hhL (List.mem_singleton.mp z)
    refine rot_d (h₀ := h₀) (D := D) hne (O.fr hg0 F2) (hr.down 14).deeper ok (At.ofNews hg0 N2 (.tail _ (.head _))) (At.ofNews hg0 N2 (.tail _ (.tail _ (.head _)))) (At.ofNews hg0 N2 (.tail _ (.tail _ (.tail _ (.head _))))) B2 (Nat.lt_trans hsz (by decide)) hf ?_
    intro bs1 n1 h3 tk3 M3 aL3 B3 G3
    have G : Grow (some q) D false s.heap bs bs1 := ⟨hne, grow_of (by simp) (fun b z => z.back M2 hW) G3⟩
    clear G3
    have F3 := fr_mod F2 M3 (by simpa using (N2 _ (.tail _ (.tail _ (.tail _ (.head _))))).2.1.symm) (by simpa using (N2 _ (.tail _ (.tail _ (.tail _ (.head _))))).2.2)
    have N3 := news_add (news_mod (fun p (hp : p ∈ [_, _, _]) => N2 p (by
        rcases List.mem_cons.mp hp with rfl | hp
        · exact .head _
        rcases List.mem_cons.mp hp with rfl | hp
        · exact .tail _ (.head _)
        rcases List.mem_cons.mp hp with rfl | hp
        · exact .tail _ (.tail _ (.head _))
        · cases hp)) M3 (by simp [n3, n4, n7, n7.symm, n3.symm, n4.symm])) aL3.1 (N2 _ (.tail _ (.tail _ (.tail _ (.head _))))).2
    have I3 : IsInts h₀ h3 hl hs := I2.mod M3 nh
    have hne1 := G.ne
    have nd1 : (L :: feet bs1).Nodup := G.nodup hL.1 B hnd B3
    dsimp only at *
    clear N2
    have X3 : (hd1.heap_39 w.params).In h3 := X.keeps F3.keep
    have q9 := B3 _ (List.getLast_mem hne1)
    obtain ⟨v1, v2, v3, v4, v5, v6, v7, v8, bsv, bsi, nn, q1, q2, q3, q4, q5⟩ := id q9
    have q1' := q1.1
    have q2' := q2.1
    walk_at "bf steps"
    have ne9 : hl ≠ (bs1.getLast hne1).l := fun z => by
      rcases G.own _ (mem_feet (List.getLast_mem hne1)).2.2 with y | y
      · exact hhl (z ▸ y)
      · obtain ⟨_, _, z9, _⟩ := id I
        rw [← z, z9.1] at y; cases y
    have M13 : Mod ([L, e, 418]) s.heap h3 := fun a o ha ho => M3 a o (fun z => ha (by rw [List.mem_singleton.mp z]; simp)) (M2 a o (fun z => ha (by first | exact .tail _ z | simp_all)) ho)
    refine wpAny_call ?_
    refine add_alt_spec (h₀ := h₀) (D := D) (O.fr hg0 F3) (hr.down 36).deeper ok q9 I3 hnh ne9 ?_
    intro h4 tk4 M4 B4
    have P := put_end (r := (some q)) (D := D) (hs := hs) (bs := bs) hne1 M13 (by simp) G.own B3 nd1 (At.ofNews hg0 N3 (.tail _ (.head _))) (At.ofNews hg0 N3 (.tail _ (.tail _ (.head _)))) (At.ofNews hg0 N3 (.tail _ (.tail _ (.tail _ (.head _))))) aL3 ⟨rfl, rfl⟩ M4 B4 hTb2
    clear N3
    dsimp only at *
    walk_at "bf steps"
    refine ret bs1 _ { heap := h4, gens := gs2, drawn := s.drawn, toks := _, os := s.os } ⟨P.1, rfl, rfl, A2g⟩ P.2.1 P.2.2.1 P.2.2.2 G.sub ?_
    rw [if_neg (by rw [hany]; decide)]
    exact ⟨G, hne1, rfl⟩
  · walk_at "bf steps"
    refine ret bs bs { heap := h2, gens := gs2, drawn := s.drawn, toks := _, os := s.os } ⟨?_, rfl, rfl, A2g⟩ ⟨tb2, hT2, hTb2⟩ ⟨_, _, _, t4, _, At.ofNews hg0 N2 (.tail _ (.head _)), At.ofNews hg0 N2 (.tail _ (.tail _ (.head _))), At.ofNews hg0 N2 (.tail _ (.tail _ (.tail _ (.head _)))), B2, hnd, hne⟩ (fun a z => .inl z) (fun b z => .inl z) ?_
    · refine M2.mono fun b z => ?_
      rcases List.mem_cons.mp z with rfl | z
      · exact .tail _ (.head _)
      · rw [List.mem_singleton.mp z]; exact .head _
    · rw [if_pos hany]
end
end
section
local macro_rules | `(tactic| walk_at "binaryOp Mod int int") => `(tactic| ((with_reducible refine mod8_nat ?_)))
local macro_rules | `(tactic| walk_at "binaryOp Mod int int") => `(tactic| ((with_reducible refine mod_any (by assumption) ?_); intro r1 hr1 hr2))
local macro_rules | `(tactic| walk_at "binaryOp FloorDiv int int") => `(tactic| ((with_reducible refine div8_nat (by omega) ?_)))
local macro_rules | `(tactic| walk_at "binaryOp LShift int int") => `(tactic| ((with_reducible refine shl1_nat (by omega) ?_)))
local macro_rules | `(tactic| walk_at "subscriptTail") => `(tactic| (k_here; (with_reducible show wpAny _ _ (subscriptTail _ _ (Value.ref _) (Value.int _ _)) _ _ _); (with_unfolding_all refine' item_ints ?k1 ?k2 ?k3 ?k4 ?k5 ?_ ?k7; (case k1 => exact News.isList (by k_asm) (by k_mem)); (case k2 => assumption); (case k3 => omega); (case k4 => omega); (case k5 => omega); (case k7 => with_unfolding_all rfl); k_whole); intro _))
local macro_rules | `(tactic| walk_at "bf dec") => `(tactic| ((try simp only [decide_eq_true_eq, decide_eq_false_iff_not, Bool.not_eq_true', Bool.not_eq_false', Bool.not_eq_true, Bool.not_eq_false, beq_iff_eq, Bool.and_eq_true, Bool.not_true, Bool.not_false]); first | rfl | omega))
local macro_rules | `(tactic| walk_at "ite") => `(tactic| (k_here; (first | (k_closed; k_dflt (first | refine ite_pos (by decide) ?_ | refine ite_neg (by decide) ?_)) | refine ite_pos (by first | assumption | (walk_at "bf dec")) ?_ | refine ite_neg (by first | assumption | (walk_at "bf dec")) ?_ | (refine bf_ite ?_ ?_ <;> intro hc)); (try dsimp only)))
local macro_rules | `(tactic| walk_at "bf steps") => `(tactic| repeat' (first | (k_unfold; (try dsimp only)) | (walk1 <;> (try dsimp only)) | fail "no step"))
local macro_rules | `(tactic| walk_at "bf enter") => `(tactic| (refine' enter _ (by assumption) (by assumption) ?ho ?hcd ?hroom ?hbind ?hloc ?_ ?c1 ?c2 ?c3 ?c4; (case ho => k_is); (case hcd => k_is); (case hroom => first | assumption | omega | exact Room.lt (by assumption)); (case hbind => first | exact BindsTo.of_eq rfl | exact binds_K (by assumption) rfl (by k_is) rfl rfl rfl); (case hloc => exact locs rfl); (case c1 => exact rfl); (case c2 => exact rfl); (case c3 => exact rfl); (case c4 => decide)))
local macro_rules | `(tactic| walk_at "getMethod ref") => `(tactic| (k_here; (with_reducible show wpAny _ _ (getMethod _ (Str.ofString "_get_optimized_params") _) _ _ _); k_dflt (refine' cm_slot ?k1 ?k2 ?k3 ?k4 ?k5 ?k6 ?k7 ?k8 ?k9 ?k10 ?k11 ?k12 ?k13 ?_; (case k1 => k_asm); (case k2 => k_asm); (case k3 => k_asm); (case k4 => k_inst); (case k5 => k_is); (case k6 => k_is); (case k7 => k_is); (case k8 => k_is); (case k9 => k_is); (case k10 => k_is); (case k11 => k_is); (case k12 => decide +kernel); (case k13 => k_is); k_whole; intro q' h' F' N' l1; (try k_lt l1))))
local macro_rules | `(tactic| walk_at "callWith ref") => `(tactic| (k_here; (with_reducible show wpAny _ _ (callWith _ _ _ (backTo _ (starEach (_ :: _) _)) []) _ _ _); k_dflt (refine' callWith_K ?k1 ?k2 ?_; (case k1 => k_asm); (case k2 => k_is); k_whole)))
local macro_rules | `(tactic| walk_at "callWith ref") => `(tactic| (k_here; (with_reducible show wpAny _ _ (callWith _ _ _ _ (backToKw _ (keywordEach (_ :: _) _))) _ _ _); k_dflt (refine' callWith_KW ?k1 ?k2 ?k3 ?_; (case k1 => k_asm); (case k2 => k_is); (case k3 => exact rfl); k_whole)))
local macro_rules | `(tactic| walk_at "call builtin:len") => `(tactic| (k_here; (with_reducible show wpAny _ _ (call (Value.builtin "len") [Value.ref _]) _ _ _); (with_unfolding_all refine' call_len_list (items := (refs _).toArray) ?k1 ?k2 ?_; (case k1 => exact News.isList (by k_asm) (by k_mem)); (case k2 => (rw [List.size_toArray]; omega)); k_whole)))
section
local macro_rules | `(tactic| walk_at "bf none") => `(tactic| skip)
theorem mu_slot {prog : Program} {w : World} {A : Around} {E : Value → Shared → Prop} {s : Shared} {K : Frag} {h₀ : Heap} {L x C : Addr} {ox : Obj} {od : Option Obj} {name : Str} {m : Str → Option Value} {pl : Sem Bool} {Q : Value × List Value → Shared → Prop} {r : Option Value}
    (F : Fr h₀ L s.heap m) (X₀ : K.In h₀) (I : InstAt s.heap x ox C od) (hga : findIn K (.ref C) "__getattribute__" = some (some (.builtin "object.__getattribute__"))) (hk : findIn K (.ref C) "__getattr__" = some none)
    (hf : findIn K (.ref C) name = some r) (ht : r.all (fun a => (typeIn K a).any fun t => t != .type "function" && t != .type "method_descriptor" && t != .type "wrapper_descriptor") = true)
    (h : wpAny (model prog w) A (getAttr (.ref x) name) (fun v => Q (v, [])) E s) : wpAny (model prog w) A (getMethod (.ref x) name pl) Q E s :=
  method_usual (X₀.keeps F.keep) I hga hk hf ht h
def HF (w : World) (h₀ : Heap) (f : Addr) (nh : Nat) (key : Value) (hs : List Int) : Prop :=
  ∀ (A : Around) (R : Result → Shared → Prop) (s : Shared) (t : Tok), On w h₀ s.heap → Room A 10 →
    (∀ a h' tk', Mod [] s.heap h' → s.heap.get? a = none → IsInts h₀ h' a hs → R (.ok (.ret (.ref a))) { s with heap := h', toks := tk' }) →
    codeAny (model PySem.Challenge.rw_sv0019_01.row.prog w) A (.call (.ref f) ⟨[key, .int (nh : Int) t], []⟩) R s
theorem FnAt.on {w : World} {h₀ h : Heap} {f : Addr} (x : FnAt f h₀) (O : On w h₀ h) : FnAt f h := let ⟨a, b, c, d, e⟩ := x; ⟨a, b, c, d, O.stays _ _ e⟩
theorem fnat_H {h₀ g h : Heap} {L f : Addr} {m : Str → Option Value} (x : FnAt f h₀) (hg : ∀ b o, h₀.get? b = some o → g.get? b = some o) (F : Fr g L h m) : FnAt f h := let ⟨a, b, c, d, e⟩ := x; ⟨a, b, c, d, F.keep _ _ (hg _ _ e)⟩
theorem callWith_H {M : Model} {A : Around} {E : Value → Shared → Prop} {s : Shared} {env : Env} {pos : Pos} {first : List Value} {Q : Value → Shared → Prop} {f : Addr} {e : PySem.Expr} {rest : List PySem.Expr} {h₀ g : Heap} {L : Addr} {m : Str → Option Value}
    (x : FnAt f h₀) (hg : ∀ b o, h₀.get? b = some o → g.get? b = some o) (F : Fr g L s.heap m) (h : wpAny M A (spliced (backTo pos (starEach (e :: rest) env))) (fun vs s₁ => FnAt f s₁.heap ∧ wpAny M A (call (.ref f) (first ++ vs)) Q E s₁) E s)
    (he : starEach (e :: rest) env = (false, eval e env) :: starEach rest env := by rfl) (hplain : (backTo pos (starEach rest env)).any (·.1) = false := by rfl) :
    wpAny M A (callWith pos (.ref f) first (backTo pos (starEach (e :: rest) env)) []) Q E s := callWith_F (fnat_H x hg F) h he hplain
theorem Fil.mod0 {r : Option Int} {D : BD} {h₀ h h' : Heap} {e de L : Addr} {added : Int} {bs : List BH} (Z : Fil r D h₀ h e de L added bs) (M : Mod [] h h') : Fil r D h₀ h' e de L added bs :=
  let ⟨t1, t2, t3, t4, n, a, b, c, d, k⟩ := Z
  ⟨t1, t2, t3, t4, n, a.mod M (fun z => nomatch z), b.mod M (fun z => nomatch z), c.mod M (fun z => nomatch z), d.mod M (fun _ _ z => nomatch z), k⟩
theorem Fil.modW {r : Option Int} {D : BD} {h₀ h h' : Heap} {e de L : Addr} {added : Int} {bs : List BH} {W : List Addr} (Z : Fil r D h₀ h e de L added bs) (M : Mod W h h') (he : e ∉ W) (hd : de ∉ W) (hL : L ∉ W) (hf : ∀ a ∈ feet bs, a ∉ W) : Fil r D h₀ h' e de L added bs :=
  let ⟨t1, t2, t3, t4, n, a, b, c, d, k⟩ := Z
  ⟨t1, t2, t3, t4, n, a.mod M he, b.mod M hd, c.mod M hL, d.mod M hf, k⟩
theorem Grow.back {r : Option Int} {D : BD} {f : Bool} {h h' : Heap} {bs bs' : List BH} (M : Mod [] h h') (g : Grow r D f h' bs bs') : Grow r D f h bs bs' := by
  obtain ⟨hne, g⟩ := g
  refine ⟨hne, ?_⟩
  cases r with
  | none => exact grow_of Iff.rfl (fun b z => z.back M (fun _ z => nomatch z)) g
  | some q => exact grow_of Iff.rfl (fun b z => z.back M (fun _ z => nomatch z)) g
theorem Own.back {h h' : Heap} {bs bs' : List BH} (M : Mod [] h h') (o : Own h' bs bs') : Own h bs bs' := fun a ha => (o a ha).imp id (none_of M)
theorem pre_fresh {D : BD} {h₀ h h' : Heap} {bs : List BH} {a L : Addr} {o : Obj} (B : IsBlooms D h₀ h bs) (hL : h.get? L = some o) (M : Mod [] h h') (na : h'.get? a = none) : a ∉ feet bs ∧ a ≠ L := by
  have n := none_of M na
  refine ⟨fun z => ?_, fun z => ?_⟩
  · obtain ⟨o', q⟩ := feet_at B a z
    have q := q.1; rw [n] at q; cases q
  · rw [z, hL] at n; cases n
end
end
section
local macro_rules | `(tactic| walk_at "binaryOp Mod int int") => `(tactic| ((with_reducible refine mod8_nat ?_)))
local macro_rules | `(tactic| walk_at "binaryOp Mod int int") => `(tactic| ((with_reducible refine mod_any (by assumption) ?_); intro r1 hr1 hr2))
local macro_rules | `(tactic| walk_at "binaryOp FloorDiv int int") => `(tactic| ((with_reducible refine div8_nat (by omega) ?_)))
local macro_rules | `(tactic| walk_at "binaryOp LShift int int") => `(tactic| ((with_reducible refine shl1_nat (by omega) ?_)))
local macro_rules | `(tactic| walk_at "subscriptTail") => `(tactic| (k_here; (with_reducible show wpAny _ _ (subscriptTail _ _ (Value.ref _) (Value.int _ _)) _ _ _); (with_unfolding_all refine' item_ints ?k1 ?k2 ?k3 ?k4 ?k5 ?_ ?k7; (case k1 => exact News.isList (by k_asm) (by k_mem)); (case k2 => assumption); (case k3 => omega); (case k4 => omega); (case k5 => omega); (case k7 => with_unfolding_all rfl); k_whole); intro _))
local macro_rules | `(tactic| walk_at "bf dec") => `(tactic| ((try simp only [decide_eq_true_eq, decide_eq_false_iff_not, Bool.not_eq_true', Bool.not_eq_false', Bool.not_eq_true, Bool.not_eq_false, beq_iff_eq, Bool.and_eq_true, Bool.not_true, Bool.not_false]); first | rfl | omega))
local macro_rules | `(tactic| walk_at "ite") => `(tactic| (k_here; (first | (k_closed; k_dflt (first | refine ite_pos (by decide) ?_ | refine ite_neg (by decide) ?_)) | refine ite_pos (by first | assumption | (walk_at "bf dec")) ?_ | refine ite_neg (by first | assumption | (walk_at "bf dec")) ?_ | (refine bf_ite ?_ ?_ <;> intro hc)); (try dsimp only)))
local macro_rules | `(tactic| walk_at "bf steps") => `(tactic| repeat' (first | (k_unfold; (try dsimp only)) | (walk1 <;> (try dsimp only)) | fail "no step"))
local macro_rules | `(tactic| walk_at "bf enter") => `(tactic| (refine' enter _ (by assumption) (by assumption) ?ho ?hcd ?hroom ?hbind ?hloc ?_ ?c1 ?c2 ?c3 ?c4; (case ho => k_is); (case hcd => k_is); (case hroom => first | assumption | omega | exact Room.lt (by assumption)); (case hbind => first | exact BindsTo.of_eq rfl | exact binds_K (by assumption) rfl (by k_is) rfl rfl rfl); (case hloc => exact locs rfl); (case c1 => exact rfl); (case c2 => exact rfl); (case c3 => exact rfl); (case c4 => decide)))
local macro_rules | `(tactic| walk_at "getMethod ref") => `(tactic| (k_here; (with_reducible show wpAny _ _ (getMethod _ (Str.ofString "_get_optimized_params") _) _ _ _); k_dflt (refine' cm_slot ?k1 ?k2 ?k3 ?k4 ?k5 ?k6 ?k7 ?k8 ?k9 ?k10 ?k11 ?k12 ?k13 ?_; (case k1 => k_asm); (case k2 => k_asm); (case k3 => k_asm); (case k4 => k_inst); (case k5 => k_is); (case k6 => k_is); (case k7 => k_is); (case k8 => k_is); (case k9 => k_is); (case k10 => k_is); (case k11 => k_is); (case k12 => decide +kernel); (case k13 => k_is); k_whole; intro q' h' F' N' l1; (try k_lt l1))))
local macro_rules | `(tactic| walk_at "callWith ref") => `(tactic| (k_here; (with_reducible show wpAny _ _ (callWith _ _ _ (backTo _ (starEach (_ :: _) _)) []) _ _ _); k_dflt (refine' callWith_K ?k1 ?k2 ?_; (case k1 => k_asm); (case k2 => k_is); k_whole)))
local macro_rules | `(tactic| walk_at "callWith ref") => `(tactic| (k_here; (with_reducible show wpAny _ _ (callWith _ _ _ _ (backToKw _ (keywordEach (_ :: _) _))) _ _ _); k_dflt (refine' callWith_KW ?k1 ?k2 ?k3 ?_; (case k1 => k_asm); (case k2 => k_is); (case k3 => exact rfl); k_whole)))
local macro_rules | `(tactic| walk_at "call builtin:len") => `(tactic| (k_here; (with_reducible show wpAny _ _ (call (Value.builtin "len") [Value.ref _]) _ _ _); (with_unfolding_all refine' call_len_list (items := (refs _).toArray) ?k1 ?k2 ?_; (case k1 => exact News.isList (by k_asm) (by k_mem)); (case k2 => (rw [List.size_toArray]; omega)); k_whole)))
local macro_rules | `(tactic| walk_at "subscriptTail") => `(tactic| (k_here; (with_reducible show wpAny _ _ (subscriptTail _ _ (Value.ref _) (Value.int _ _)) _ _ _); first
  | ((with_reducible show wpAny _ _ (subscriptTail _ _ (Value.ref _) (Value.int (-1) _)) _ _ _); with_unfolding_all refine' last_item ?k1 ?k2 ?_ ?k3; (case k2 => exact News.isList (by k_asm) (by k_mem)); (case k1 => assumption); (case k3 => with_unfolding_all rfl); k_whole)
  | ((with_reducible show wpAny _ _ (subscriptTail _ _ (Value.ref _) (Value.int 0 _)) _ _ _); with_unfolding_all refine' head_item ?k1 ?k2 ?_ ?k3; (case k2 => exact News.isList (by k_asm) (by k_mem)); (case k1 => assumption); (case k3 => with_unfolding_all rfl); k_whole)))
local macro_rules | `(tactic| walk_at "call builtin:list.pop") => `(tactic| (k_here; (with_reducible show wpAny _ _ (call (Value.builtin _) [Value.ref _, Value.int _ _]) _ _ _); k_dflt (refine' pop_refs ?F ?N ?U ?z ?_; (case F => k_asm); (case N => k_asm); (case U => k_upd); (case z => assumption)); (intro h' F' N'; (try dsimp only [List.nil_append, List.cons_append] at N'))))
local macro_rules | `(tactic| walk_at "getMethod ref") => `(tactic| (k_here; (with_reducible show wpAny _ _ (getMethod (Value.ref (BH.x _)) (Str.ofString "add_alt") _) _ _ _); k_dflt (refine' method_fn (C := 325) (f := 248) (od := some (dictOf [] 0)) ?y0 ⟨?x1, ?x3, ?x4, ?x2⟩ ?y1 ?y2 ?y3 ?y4 ?y5 ?_; (case y0 => assumption); (case x1 => assumption); (case x3 => exact rfl); (case x4 => exact rfl); (case x2 => assumption); (case y1 => k_is); (case y2 => k_is); (case y3 => k_is); (case y4 => k_is); (case y5 => exact rfl); k_whole)))
local macro_rules | `(tactic| walk_at "getMethod ref") => `(tactic| (k_here; (with_reducible show wpAny _ _ (getMethod (Value.ref (BH.x _)) (Str.ofString "hashes") _) _ _ _); k_dflt (refine' method_fn (C := 325) (f := 234) (od := some (dictOf [] 0)) ?y0 ⟨?x1, ?x3, ?x4, ?x2⟩ ?y1 ?y2 ?y3 ?y4 ?y5 ?_; (case y0 => assumption); (case x1 => assumption); (case x3 => exact rfl); (case x4 => exact rfl); (case x2 => assumption); (case y1 => k_is); (case y2 => k_is); (case y3 => k_is); (case y4 => k_is); (case y5 => exact rfl); k_whole)))
local macro_rules | `(tactic| walk_at "getMethod ref") => `(tactic| (k_here; (with_reducible show wpAny _ _ (getMethod (Value.ref _) (Str.ofString "_hash_func") _) _ _ _); k_dflt (refine' mu_slot ?y0 ?y6 ?y5 ?y1 ?y2 ?y3 ?y4 ?_; (case y0 => k_asm); (case y6 => k_asm); (case y5 => k_inst); (case y1 => k_is); (case y2 => k_is); (case y3 => k_is); (case y4 => first | exact rfl | decide +kernel); k_whole)))
local macro_rules | `(tactic| walk_at "callWith ref") => `(tactic| (k_here; (with_reducible show wpAny _ _ (callWith _ (Value.ref _) [] (backTo _ (starEach (_ :: _) _)) []) _ _ _); (rename (FnAt _ _) => fnX); k_dflt (refine' callWith_H ?k1 ?k2 ?k3 ?_; (case k1 => exact fnX); (case k2 => assumption); (case k3 => k_asm); k_whole)))
local macro_rules | `(tactic| walk_at "FnAt") => `(tactic| (k_dflt (refine' fnat_H ?k1 ?k2 ?k3; (case k1 => assumption); (case k2 => assumption); (case k3 => k_asm))))
section
local macro_rules | `(tactic| walk_at "bf none") => `(tactic| skip)
theorem hashes_spec {w : World} {A : Around} {R : Result → Shared → Prop} {s : Shared} {h₀ : Heap} {D : BD} {x dx l f : Addr} {cnt : Nat} {p : Nat → Bool} {key : Value} {hs : List Int}
    (O : On w h₀ s.heap) (hr : Room A 15) (B : IsBloom D h₀ s.heap x dx l cnt p) (hf : D.hf = .ref f) (ff : FnAt f h₀) (H : HF w h₀ f D.nh key hs)
    (ret : ∀ a h' tk', Mod [] s.heap h' → s.heap.get? a = none → IsInts h₀ h' a hs → R (.ok (.ret (.ref a))) { s with heap := h', toks := tk' }) :
    codeAny (model PySem.Challenge.rw_sv0019_01.row.prog w) A (.call (.ref 234) ⟨[.ref x, key], []⟩) R s := by
  obtain ⟨hd0, dp0, fr0, gd0, un0⟩ := A
  obtain rfl : hd0 = none := hr.hd
  obtain ⟨bits, est, nh, nb, hf'⟩ := D
  obtain ⟨t1, t2, t3, t4, t5, t6, t7, t8, bsv, bs, nn, hx, hd, hl', hbi, hB⟩ := B
  dsimp only at *
  subst hf
  have n2 := neN (fun q : x = dx => At.clash hx (q ▸ hd))
  have XS : (hd1.heap_39 w.params).In s.heap := O.wd.1.keeps O.stays
  have Al : AllAt h₀ s.heap [(x, bloomO dx l (.ref f) nb cnt est bits nh t1 t2 t3 t4 t5 t6 t7 t8), (dx, dictOf [] 0)] :=
    List.forall_mem_cons.mpr ⟨hx, List.forall_mem_cons.mpr ⟨hd, List.forall_mem_nil _⟩⟩
  walk_at "bf enter"
  intro g L' h₁ p₁ loose mean mg mb hg0 hg2 F N X T
  (try dsimp only); (try k_fold)
  walk_at "bf steps"
  rename_i h1 F1 N1
  refine wpAny_call ?_
  refine H _ _ _ _ (O.fr hg0 F1) (hr.down 4).deeper ?_
  intro a h2 tk2 M2 na I2
  have F2 := fr_mod0 F1 M2
  dsimp only at *
  have M1 : Mod [] s.heap h1 := mod_of [] hg2 F1 N1 Al (fun p hp _ => hp)
  exact ret a h2 _ (M1.trans M2) (none_of M1 na) I2
end
section
local macro_rules | `(tactic| walk_at "bf none") => `(tactic| skip)
local macro_rules | `(tactic| walk_at "bf none") => `(tactic| skip)
theorem add_exp_true {w : World} {A : Around} {R : Result → Shared → Prop} {s : Shared} {h₀ : Heap} {D : BD} {e de L f : Addr} {added q : Int} {hs : List Int} {key : Value}
    {bs : List BH}
    (O : On w h₀ s.heap) (hr : Room A 50) (ok : D.Ok) (Z : Fil none D h₀ s.heap e de L added bs) (hf : D.hf = .ref f) (ff : FnAt f h₀) (H : HF w h₀ f D.nh key hs) (hnh : D.nh ≤ hs.length) (TB : Tab h₀ s.heap) (hsz : bs.length < 900)
    (ret : ∀ bs1 bs' s', Aft (418 :: e :: L :: feet bs) s s' → Tab h₀ s'.heap → Fil none D h₀ s'.heap e de L (added + 1) bs' → Own s.heap bs bs' → (∀ b ∈ bs1, b ∈ bs ∨ FreshB s.heap b) →
      (Grow none D false s.heap bs bs1 ∧ ∃ hne, bs' = putLast D hs bs1 hne) →
      R (.ok (.ret .none)) s') :
    codeAny (model PySem.Challenge.rw_sv0019_01.row.prog w) A (.call (.ref 431) ⟨[.ref e, key, .bool true], []⟩) R s := by
  obtain ⟨hd0, dp0, fr0, gd0, un0⟩ := A
  obtain rfl : hd0 = none := hr.hd
  obtain ⟨t1, t2, t3, t4, n, he, hd, hL, B, hnd, hne⟩ := id Z
  have XS : (hd1.heap_39 w.params).In s.heap := O.wd.1.keeps O.stays
  have n2 := neN (fun q : e = de => At.clash he (q ▸ hd))
  have n3 := neN (fun q : e = L => At.clash he (q ▸ hL))
  have n4 := neN (fun q : de = L => At.clash hd (q ▸ hL))
  have Al : AllAt h₀ s.heap [(e, expO de L D.hf D.est D.bits added t1 t2 t3), (de, dictOf [] 0), (L, listO (refs bs) n)] :=
    List.forall_mem_cons.mpr ⟨he, List.forall_mem_cons.mpr ⟨hd, List.forall_mem_cons.mpr ⟨hL, List.forall_mem_nil _⟩⟩⟩
  have q9 := B _ (List.head_mem hne)
  obtain ⟨v1, v2, v3, v4, v5, v6, v7, v8, bsv, bsi, nn, q1, q2, q3, q4, q5⟩ := id q9
  walk_at "bf enter"
  intro g L' h₁ p₁ loose mean mg mb hg0 hg2 F N X T
  (try dsimp only); (try k_fold)
  have M1 : Mod [] s.heap h₁ := mod_of [] hg2 F N Al (fun p hp _ => hp)
  have q1' := (q1.mod M1 (fun z => nomatch z)).1
  have q2' := (q2.mod M1 (fun z => nomatch z)).1
  have X1 : (hd1.heap_39 w.params).In h₁ := X.keeps F.keep
  walk_at "bf steps"
  refine wpAny_call ?_
  refine hashes_spec (h₀ := h₀) (O.fr hg0 F) (hr.down 34).deeper (q9.mod M1 (fun z => nomatch z) (fun z => nomatch z) (fun z => nomatch z)) hf ff H ?_
  intro a h2 tk2 M2 na I2
  dsimp only at *
  have F2 := fr_mod0 F M2
  obtain ⟨pf1, pf2⟩ := pre_fresh B hL.1 M1 na
  obtain ⟨vs, k, za, zi⟩ := I2
  have N2 := news_add (news_mod0 N M2) za.1 (fr_new F na)
  clear N
  walk_at "bf steps"
  rename_i h3 F3 N3
  have M3 : Mod [] s.heap h3 := mod_of [] hg2 F3 N3 Al (fun p hp _ => .tail _ hp)
  refine wpAny_call ?_
  refine addalt_exp_true (h₀ := h₀) (D := D) (hs := hs) (q := 0) (O.fr hg0 F3) (hr.down 9).deeper ok (Z.mod0 M3) ⟨vs, k, At.ofNews hg0 N3 (.head _), zi⟩ hnh pf1 pf2 (TB.mod M3 (fun z => nomatch z)) hsz ?_
  intro bs1 bs' s' A4 T4 Z4 O4 S4 R4
  dsimp only at *
  clear N3
  walk_at "bf steps"
  refine ret bs1 bs' s' ⟨(M3.mono (fun _ z => nomatch z)).trans A4.mod, A4.drawn, A4.os, A4.gens⟩ T4 Z4 (O4.back M3) (fun b hb => (S4 b hb).imp id (fun z => z.back M3 (fun _ z => nomatch z))) ?_
  exact ⟨R4.1.back M3, R4.2⟩
theorem add_exp_false {w : World} {A : Around} {R : Result → Shared → Prop} {s : Shared} {h₀ : Heap} {D : BD} {e de L f : Addr} {added q : Int} {hs : List Int} {key : Value}
    {bs : List BH}
    (O : On w h₀ s.heap) (hr : Room A 50) (ok : D.Ok) (Z : Fil none D h₀ s.heap e de L added bs) (hf : D.hf = .ref f) (ff : FnAt f h₀) (H : HF w h₀ f D.nh key hs) (hnh : D.nh ≤ hs.length) (TB : Tab h₀ s.heap) (hsz : bs.length < 900)
    (ret : ∀ bs1 bs' s', Aft (418 :: e :: L :: feet bs) s s' → Tab h₀ s'.heap → Fil none D h₀ s'.heap e de L (added + 1) bs' → Own s.heap bs bs' → (∀ b ∈ bs1, b ∈ bs ∨ FreshB s.heap b) →
      (if bs.any (BH.has D hs) then bs' = bs else Grow none D false s.heap bs bs1 ∧ ∃ hne, bs' = putLast D hs bs1 hne) →
      R (.ok (.ret .none)) s') :
    codeAny (model PySem.Challenge.rw_sv0019_01.row.prog w) A (.call (.ref 431) ⟨[.ref e, key], []⟩) R s := by
  obtain ⟨hd0, dp0, fr0, gd0, un0⟩ := A
  obtain rfl : hd0 = none := hr.hd
  obtain ⟨t1, t2, t3, t4, n, he, hd, hL, B, hnd, hne⟩ := id Z
  have XS : (hd1.heap_39 w.params).In s.heap := O.wd.1.keeps O.stays
  have n2 := neN (fun q : e = de => At.clash he (q ▸ hd))
  have n3 := neN (fun q : e = L => At.clash he (q ▸ hL))
  have n4 := neN (fun q : de = L => At.clash hd (q ▸ hL))
  have Al : AllAt h₀ s.heap [(e, expO de L D.hf D.est D.bits added t1 t2 t3), (de, dictOf [] 0), (L, listO (refs bs) n)] :=
    List.forall_mem_cons.mpr ⟨he, List.forall_mem_cons.mpr ⟨hd, List.forall_mem_cons.mpr ⟨hL, List.forall_mem_nil _⟩⟩⟩
  have q9 := B _ (List.head_mem hne)
  obtain ⟨v1, v2, v3, v4, v5, v6, v7, v8, bsv, bsi, nn, q1, q2, q3, q4, q5⟩ := id q9
  walk_at "bf enter"
  intro g L' h₁ p₁ loose mean mg mb hg0 hg2 F N X T
  (try dsimp only); (try k_fold)
  have M1 : Mod [] s.heap h₁ := mod_of [] hg2 F N Al (fun p hp _ => hp)
  have q1' := (q1.mod M1 (fun z => nomatch z)).1
  have q2' := (q2.mod M1 (fun z => nomatch z)).1
  have X1 : (hd1.heap_39 w.params).In h₁ := X.keeps F.keep
  walk_at "bf steps"
  refine wpAny_call ?_
  refine hashes_spec (h₀ := h₀) (O.fr hg0 F) (hr.down 34).deeper (q9.mod M1 (fun z => nomatch z) (fun z => nomatch z) (fun z => nomatch z)) hf ff H ?_
  intro a h2 tk2 M2 na I2
  dsimp only at *
  have F2 := fr_mod0 F M2
  obtain ⟨pf1, pf2⟩ := pre_fresh B hL.1 M1 na
  obtain ⟨vs, k, za, zi⟩ := I2
  have N2 := news_add (news_mod0 N M2) za.1 (fr_new F na)
  clear N
  walk_at "bf steps"
  rename_i h3 F3 N3
  have M3 : Mod [] s.heap h3 := mod_of [] hg2 F3 N3 Al (fun p hp _ => .tail _ hp)
  refine wpAny_call ?_
  refine addalt_exp_false (h₀ := h₀) (D := D) (hs := hs) (q := 0) (O.fr hg0 F3) (hr.down 9).deeper ok (Z.mod0 M3) ⟨vs, k, At.ofNews hg0 N3 (.head _), zi⟩ hnh pf1 pf2 (TB.mod M3 (fun z => nomatch z)) hsz ?_
  intro bs1 bs' s' A4 T4 Z4 O4 S4 R4
  dsimp only at *
  clear N3
  walk_at "bf steps"
  refine ret bs1 bs' s' ⟨(M3.mono (fun _ z => nomatch z)).trans A4.mod, A4.drawn, A4.os, A4.gens⟩ T4 Z4 (O4.back M3) (fun b hb => (S4 b hb).imp id (fun z => z.back M3 (fun _ z => nomatch z))) ?_
  by_cases hc : bs.any (BH.has D hs)
  · rw [if_pos hc] at R4 ⊢; exact R4
  · rw [if_neg hc] at R4 ⊢; exact ⟨R4.1.back M3, R4.2⟩
theorem add_rot_true {w : World} {A : Around} {R : Result → Shared → Prop} {s : Shared} {h₀ : Heap} {D : BD} {e de L f : Addr} {added q : Int} {hs : List Int} {key : Value}
    {bs : List BH}
    (O : On w h₀ s.heap) (hr : Room A 50) (ok : D.Ok) (Z : Fil (some q) D h₀ s.heap e de L added bs) (hf : D.hf = .ref f) (ff : FnAt f h₀) (H : HF w h₀ f D.nh key hs) (hnh : D.nh ≤ hs.length) (TB : Tab h₀ s.heap) (hsz : bs.length < 900)
    (ret : ∀ bs1 bs' s', Aft (418 :: e :: L :: feet bs) s s' → Tab h₀ s'.heap → Fil (some q) D h₀ s'.heap e de L (added + 1) bs' → Own s.heap bs bs' → (∀ b ∈ bs1, b ∈ bs ∨ FreshB s.heap b) →
      (Grow (some q) D false s.heap bs bs1 ∧ ∃ hne, bs' = putLast D hs bs1 hne) →
      R (.ok (.ret .none)) s') :
    codeAny (model PySem.Challenge.rw_sv0019_01.row.prog w) A (.call (.ref 431) ⟨[.ref e, key, .bool true], []⟩) R s := by
  obtain ⟨hd0, dp0, fr0, gd0, un0⟩ := A
  obtain rfl : hd0 = none := hr.hd
  obtain ⟨t1, t2, t3, t4, n, he, hd, hL, B, hnd, hne⟩ := id Z
  have XS : (hd1.heap_39 w.params).In s.heap := O.wd.1.keeps O.stays
  have n2 := neN (fun q : e = de => At.clash he (q ▸ hd))
  have n3 := neN (fun q : e = L => At.clash he (q ▸ hL))
  have n4 := neN (fun q : de = L => At.clash hd (q ▸ hL))
  have Al : AllAt h₀ s.heap [(e, rotO de L D.hf D.est D.bits added q t1 t2 t3 t4), (de, dictOf [] 0), (L, listO (refs bs) n)] :=
    List.forall_mem_cons.mpr ⟨he, List.forall_mem_cons.mpr ⟨hd, List.forall_mem_cons.mpr ⟨hL, List.forall_mem_nil _⟩⟩⟩
  have q9 := B _ (List.head_mem hne)
  obtain ⟨v1, v2, v3, v4, v5, v6, v7, v8, bsv, bsi, nn, q1, q2, q3, q4, q5⟩ := id q9
  walk_at "bf enter"
  intro g L' h₁ p₁ loose mean mg mb hg0 hg2 F N X T
  (try dsimp only); (try k_fold)
  have M1 : Mod [] s.heap h₁ := mod_of [] hg2 F N Al (fun p hp _ => hp)
  have q1' := (q1.mod M1 (fun z => nomatch z)).1
  have q2' := (q2.mod M1 (fun z => nomatch z)).1
  have X1 : (hd1.heap_39 w.params).In h₁ := X.keeps F.keep
  walk_at "bf steps"
  refine wpAny_call ?_
  refine hashes_spec (h₀ := h₀) (O.fr hg0 F) (hr.down 34).deeper (q9.mod M1 (fun z => nomatch z) (fun z => nomatch z) (fun z => nomatch z)) hf ff H ?_
  intro a h2 tk2 M2 na I2
  dsimp only at *
  have F2 := fr_mod0 F M2
  obtain ⟨pf1, pf2⟩ := pre_fresh B hL.1 M1 na
  obtain ⟨vs, k, za, zi⟩ := I2
  have N2 := news_add (news_mod0 N M2) za.1 (fr_new F na)
  clear N
  walk_at "bf steps"
  rename_i h3 F3 N3
  have M3 : Mod [] s.heap h3 := mod_of [] hg2 F3 N3 Al (fun p hp _ => .tail _ hp)
  refine wpAny_call ?_
  refine addalt_rot_true (h₀ := h₀) (D := D) (hs := hs) (O.fr hg0 F3) (hr.down 9).deeper ok (Z.mod0 M3) ⟨vs, k, At.ofNews hg0 N3 (.head _), zi⟩ hnh pf1 pf2 (TB.mod M3 (fun z => nomatch z)) hsz ?_
  intro bs1 bs' s' A4 T4 Z4 O4 S4 R4
  dsimp only at *
  clear N3
  walk_at "bf steps"
  refine ret bs1 bs' s' ⟨(M3.mono (fun _ z => nomatch z)).trans A4.mod, A4.drawn, A4.os, A4.gens⟩ T4 Z4 (O4.back M3) (fun b hb => (S4 b hb).imp id (fun z => z.back M3 (fun _ z => nomatch z))) ?_
  exact ⟨R4.1.back M3, R4.2⟩
theorem add_rot_false {w : World} {A : Around} {R : Result → Shared → Prop} {s : Shared} {h₀ : Heap} {D : BD} {e de L f : Addr} {added q : Int} {hs : List Int} {key : Value}
    {bs : List BH}
    (O : On w h₀ s.heap) (hr : Room A 50) (ok : D.Ok) (Z : Fil (some q) D h₀ s.heap e de L added bs) (hf : D.hf = .ref f) (ff : FnAt f h₀) (H : HF w h₀ f D.nh key hs) (hnh : D.nh ≤ hs.length) (TB : Tab h₀ s.heap) (hsz : bs.length < 900)
    (ret : ∀ bs1 bs' s', Aft (418 :: e :: L :: feet bs) s s' → Tab h₀ s'.heap → Fil (some q) D h₀ s'.heap e de L (added + 1) bs' → Own s.heap bs bs' → (∀ b ∈ bs1, b ∈ bs ∨ FreshB s.heap b) →
      (if bs.any (BH.has D hs) then bs' = bs else Grow (some q) D false s.heap bs bs1 ∧ ∃ hne, bs' = putLast D hs bs1 hne) →
      R (.ok (.ret .none)) s') :
    codeAny (model PySem.Challenge.rw_sv0019_01.row.prog w) A (.call (.ref 431) ⟨[.ref e, key], []⟩) R s := by
  obtain ⟨hd0, dp0, fr0, gd0, un0⟩ := A
  obtain rfl : hd0 = none := hr.hd
  obtain ⟨t1, t2, t3, t4, n, he, hd, hL, B, hnd, hne⟩ := id Z
  have XS : (hd1.heap_39 w.params).In s.heap := O.wd.1.keeps O.stays
  have n2 := neN (fun q : e = de => At.clash he (q ▸ hd))
  have n3 := neN (fun q : e = L => At.clash he (q ▸ hL))
  have n4 := neN (fun q : de = L => At.clash hd (q ▸ hL))
  have Al : AllAt h₀ s.heap [(e, rotO de L D.hf D.est D.bits added q t1 t2 t3 t4), (de, dictOf [] 0), (L, listO (refs bs) n)] :=
    List.forall_mem_cons.mpr ⟨he, List.forall_mem_cons.mpr ⟨hd, List.forall_mem_cons.mpr ⟨hL, List.forall_mem_nil _⟩⟩⟩
  have q9 := B _ (List.head_mem hne)
  obtain ⟨v1, v2, v3, v4, v5, v6, v7, v8, bsv, bsi, nn, q1, q2, q3, q4, q5⟩ := id q9
  walk_at "bf enter"
  intro g L' h₁ p₁ loose mean mg mb hg0 hg2 F N X T
  (try dsimp only); (try k_fold)
  have M1 : Mod [] s.heap h₁ := mod_of [] hg2 F N Al (fun p hp _ => hp)
  have q1' := (q1.mod M1 (fun z => nomatch z)).1
  have q2' := (q2.mod M1 (fun z => nomatch z)).1
  have X1 : (hd1.heap_39 w.params).In h₁ := X.keeps F.keep
  walk_at "bf steps"
  refine wpAny_call ?_
  refine hashes_spec (h₀ := h₀) (O.fr hg0 F) (hr.down 34).deeper (q9.mod M1 (fun z => nomatch z) (fun z => nomatch z) (fun z => nomatch z)) hf ff H ?_
  intro a h2 tk2 M2 na I2
  dsimp only at *
  have F2 := fr_mod0 F M2
  obtain ⟨pf1, pf2⟩ := pre_fresh B hL.1 M1 na
  obtain ⟨vs, k, za, zi⟩ := I2
  have N2 := news_add (news_mod0 N M2) za.1 (fr_new F na)
  clear N
  walk_at "bf steps"
  rename_i h3 F3 N3
  have M3 : Mod [] s.heap h3 := mod_of [] hg2 F3 N3 Al (fun p hp _ => .tail _ hp)
  refine wpAny_call ?_
  refine addalt_rot_false (h₀ := h₀) (D := D) (hs := hs) (O.fr hg0 F3) (hr.down 9).deeper ok (Z.mod0 M3) ⟨vs, k, At.ofNews hg0 N3 (.head _), zi⟩ hnh pf1 pf2 (TB.mod M3 (fun z => nomatch z)) hsz ?_
  intro bs1 bs' s' A4 T4 Z4 O4 S4 R4
  dsimp only at *
  clear N3
  walk_at "bf steps"
  refine ret bs1 bs' s' ⟨(M3.mono (fun _ z => nomatch z)).trans A4.mod, A4.drawn, A4.os, A4.gens⟩ T4 Z4 (O4.back M3) (fun b hb => (S4 b hb).imp id (fun z => z.back M3 (fun _ z => nomatch z))) ?_
  by_cases hc : bs.any (BH.has D hs)
  · rw [if_pos hc] at R4 ⊢; exact R4
  · rw [if_neg hc] at R4 ⊢; exact ⟨R4.1.back M3, R4.2⟩
end
section
local macro_rules | `(tactic| walk_at "bf none") => `(tactic| skip)
local macro_rules | `(tactic| walk_at "bf none") => `(tactic| skip)
local macro_rules | `(tactic| walk_at "bf none") => `(tactic| skip)
theorem check_exp {w : World} {A : Around} {R : Result → Shared → Prop} {s : Shared} {h₀ : Heap} {D : BD} {e de L f : Addr} {added q : Int} {hs : List Int} {key : Value}
    {bs : List BH}
    (O : On w h₀ s.heap) (hr : Room A 50) (ok : D.Ok) (Z : Fil none D h₀ s.heap e de L added bs) (hf : D.hf = .ref f) (ff : FnAt f h₀) (H : HF w h₀ f D.nh key hs) (hnh : D.nh ≤ hs.length) (TB : Tab h₀ s.heap)
    (ret : ∀ s', Aft [418] s s' → Tab h₀ s'.heap → R (.ok (.ret (.bool (bs.any (BH.has D hs))))) s') :
    codeAny (model PySem.Challenge.rw_sv0019_01.row.prog w) A (.call (.ref 416) ⟨[.ref e, key], []⟩) R s := by
  obtain ⟨hd0, dp0, fr0, gd0, un0⟩ := A
  obtain rfl : hd0 = none := hr.hd
  obtain ⟨t1, t2, t3, t4, n, he, hd, hL, B, hnd, hne⟩ := id Z
  have XS : (hd1.heap_39 w.params).In s.heap := O.wd.1.keeps O.stays
  have n2 := neN (fun q : e = de => At.clash he (q ▸ hd))
  have n3 := neN (fun q : e = L => At.clash he (q ▸ hL))
  have n4 := neN (fun q : de = L => At.clash hd (q ▸ hL))
  have Al : AllAt h₀ s.heap [(e, expO de L D.hf D.est D.bits added t1 t2 t3), (de, dictOf [] 0), (L, listO (refs bs) n)] :=
    List.forall_mem_cons.mpr ⟨he, List.forall_mem_cons.mpr ⟨hd, List.forall_mem_cons.mpr ⟨hL, List.forall_mem_nil _⟩⟩⟩
  have q9 := B _ (List.head_mem hne)
  obtain ⟨v1, v2, v3, v4, v5, v6, v7, v8, bsv, bsi, nn, q1, q2, q3, q4, q5⟩ := id q9
  walk_at "bf enter"
  intro g L' h₁ p₁ loose mean mg mb hg0 hg2 F N X T
  (try dsimp only); (try k_fold)
  have M1 : Mod [] s.heap h₁ := mod_of [] hg2 F N Al (fun p hp _ => hp)
  have q1' := (q1.mod M1 (fun z => nomatch z)).1
  have q2' := (q2.mod M1 (fun z => nomatch z)).1
  have X1 : (hd1.heap_39 w.params).In h₁ := X.keeps F.keep
  walk_at "bf steps"
  refine wpAny_call ?_
  refine hashes_spec (h₀ := h₀) (O.fr hg0 F) (hr.down 34).deeper (q9.mod M1 (fun z => nomatch z) (fun z => nomatch z) (fun z => nomatch z)) hf ff H ?_
  intro a h2 tk2 M2 na I2
  dsimp only at *
  have F2 := fr_mod0 F M2
  obtain ⟨pf1, pf2⟩ := pre_fresh B hL.1 M1 na
  obtain ⟨vs, k, za, zi⟩ := I2
  have N2 := news_add (news_mod0 N M2) za.1 (fr_new F na)
  clear N
  walk_at "bf steps"
  rename_i h3 F3 N3
  have M3 : Mod [] s.heap h3 := mod_of [] hg2 F3 N3 Al (fun p hp _ => .tail _ hp)
  refine wpAny_call ?_
  refine checkalt_exp (h₀ := h₀) (D := D) (bs := bs) (hs := hs) (n := n) (q := 0) (t4 := t1) (O.fr hg0 F3) (hr.down 29).deeper ok (At.ofNews hg0 N3 (.tail _ (.head _))) (At.ofNews hg0 N3 (.tail _ (.tail _ (.head _)))) (At.ofNews hg0 N3 (.tail _ (.tail _ (.tail _ (.head _))))) (B.mod M3 (fun _ _ z => nomatch z)) ⟨vs, k, At.ofNews hg0 N3 (.head _), zi⟩ hnh (TB.mod M3 (fun z => nomatch z)) ?_
  intro s' A4 T4
  dsimp only at *
  exact ret s' ⟨(M3.mono (fun _ z => nomatch z)).trans A4.mod, A4.drawn, A4.os, A4.gens⟩ T4
theorem contains_exp {w : World} {A : Around} {R : Result → Shared → Prop} {s : Shared} {h₀ : Heap} {D : BD} {e de L f : Addr} {added q : Int} {hs : List Int} {key : Value}
    {bs : List BH}
    (O : On w h₀ s.heap) (hr : Room A 51) (ok : D.Ok) (Z : Fil none D h₀ s.heap e de L added bs) (hf : D.hf = .ref f) (ff : FnAt f h₀) (H : HF w h₀ f D.nh key hs) (hnh : D.nh ≤ hs.length) (TB : Tab h₀ s.heap)
    (ret : ∀ s', Aft [418] s s' → Tab h₀ s'.heap → R (.ok (.ret (.bool (bs.any (BH.has D hs))))) s') :
    codeAny (model PySem.Challenge.rw_sv0019_01.row.prog w) A (.call (.ref 362) ⟨[.ref e, key], []⟩) R s := by
  obtain ⟨hd0, dp0, fr0, gd0, un0⟩ := A
  obtain rfl : hd0 = none := hr.hd
  obtain ⟨t1, t2, t3, t4, n, he, hd, hL, B, hnd, hne⟩ := id Z
  have n2 := neN (fun q : e = de => At.clash he (q ▸ hd))
  have Al : AllAt h₀ s.heap [(e, expO de L D.hf D.est D.bits added t1 t2 t3), (de, dictOf [] 0)] :=
    List.forall_mem_cons.mpr ⟨he, List.forall_mem_cons.mpr ⟨hd, List.forall_mem_nil _⟩⟩
  walk_at "bf enter"
  intro g L' h₁ p₁ loose mean mg mb hg0 hg2 F N X T
  (try dsimp only); (try k_fold)
  have M1 : Mod [] s.heap h₁ := mod_of [] hg2 F N Al (fun p hp _ => hp)
  walk_at "bf steps"
  refine wpAny_call ?_
  refine check_exp (h₀ := h₀) (D := D) (hs := hs) (q := 0) (O.fr hg0 F) hr.deeper ok (Z.mod0 M1) hf ff H hnh (TB.mod M1 (fun z => nomatch z)) ?_
  intro s' A4 T4
  dsimp only at *
  exact ret s' ⟨(M1.mono (fun _ z => nomatch z)).trans A4.mod, A4.drawn, A4.os, A4.gens⟩ T4
theorem push_exp {w : World} {A : Around} {R : Result → Shared → Prop} {s : Shared} {h₀ : Heap} {D : BD} {e de L : Addr} {added q : Int}
    {bs : List BH}
    (O : On w h₀ s.heap) (hr : Room A 40) (ok : D.Ok) (Z : Fil none D h₀ s.heap e de L added bs) (hsz : bs.length < 900)
    (ret : ∀ bs' h' tk', Mod [L] s.heap h' → Fil none D h₀ h' e de L added bs' → Own s.heap bs bs' → Grow none D true s.heap bs bs' → R (.ok (.ret .none)) { s with heap := h', toks := tk' }) :
    codeAny (model PySem.Challenge.rw_sv0019_01.row.prog w) A (.call (.ref 409) ⟨[.ref e], []⟩) R s := by
  obtain ⟨hd0, dp0, fr0, gd0, un0⟩ := A
  obtain rfl : hd0 = none := hr.hd
  obtain ⟨t1, t2, t3, t4, n, he, hd, hL, B, hnd, hne⟩ := id Z
  have n2 := neN (fun q : e = de => At.clash he (q ▸ hd))
  have n3 := neN (fun q : e = L => At.clash he (q ▸ hL))
  have n4 := neN (fun q : de = L => At.clash hd (q ▸ hL))
  have Al : AllAt h₀ s.heap [(e, expO de L D.hf D.est D.bits added t1 t2 t3), (de, dictOf [] 0), (L, listO (refs bs) n)] :=
    List.forall_mem_cons.mpr ⟨he, List.forall_mem_cons.mpr ⟨hd, List.forall_mem_cons.mpr ⟨hL, List.forall_mem_nil _⟩⟩⟩
  walk_at "bf enter"
  intro g L' h₁ p₁ loose mean mg mb hg0 hg2 F N X T
  (try dsimp only); (try k_fold)
  have M1 : Mod [] s.heap h₁ := mod_of [] hg2 F N Al (fun p hp _ => hp)
  have B1 := B.mod M1 (fun _ _ z => nomatch z)
  have hf : L ∉ feet bs := (List.nodup_cons.mp hnd).1
  have k3 : ∀ h2, Mod [L] s.heap h2 → At h₀ h2 e (expO de L D.hf D.est D.bits added t1 t2 t3) ∧ At h₀ h2 de (dictOf [] 0) := fun h2 M2 => ⟨he.mod M2 (fun z => n3 (List.mem_singleton.mp z)), hd.mod M2 (fun z => n4 (List.mem_singleton.mp z))⟩
  walk_at "bf steps"
  refine wpAny_call ?_
  refine addb_exp (h₀ := h₀) (D := D) (q := 0) (t4 := t1) (O.fr hg0 F) (hr.down 19).deeper ok (At.ofNews hg0 N (.head _)) (At.ofNews hg0 N (.tail _ (.head _))) (At.ofNews hg0 N (.tail _ (.tail _ (.head _)))) (Nat.lt_trans hsz (by decide)) ?_
  intro x dx l n' h3 tk3 M3 nx nd nl aL aB
  have M13 := (M1.mono (fun _ z => nomatch z)).trans M3
  dsimp only at *
  have F3 := fr_mod F M3 (by simpa using (N _ (.tail _ (.tail _ (.head _)))).2.1.symm) (by simpa using (N _ (.tail _ (.tail _ (.head _)))).2.2)
  clear N
  walk_at "bf steps"
  have G : Grow none D true s.heap bs (bs ++ [⟨x, dx, l, 0, fun _ => false⟩]) := ⟨hne, by
    show if _ then _ else _
    rw [if_pos (.inl rfl)]
    exact ⟨_, ⟨none_of M1 nx, none_of M1 nd, none_of M1 nl, rfl, rfl⟩, rfl⟩⟩
  have B3 : IsBlooms D h₀ h3 (bs ++ [⟨x, dx, l, 0, fun _ => false⟩]) := by
    intro b hb
    rcases List.mem_append.mp hb with hb | hb
    · have k : ∀ a ∈ feet bs, a ∉ [L] := fun a ha z => hf ((List.mem_singleton.mp z) ▸ ha)
      obtain ⟨m1, m2, m3⟩ := mem_feet hb
      exact (B b hb).mod M13 (k _ m1) (k _ m2) (k _ m3)
    · rw [List.mem_singleton.mp hb]
      exact aB
  exact ret _ h3 _ M13 ⟨t1, t2, t3, t4, n', (k3 _ M13).1, (k3 _ M13).2, aL, B3, G.nodup hL.1 B hnd B3, G.ne⟩ G.own G
theorem check_rot {w : World} {A : Around} {R : Result → Shared → Prop} {s : Shared} {h₀ : Heap} {D : BD} {e de L f : Addr} {added q : Int} {hs : List Int} {key : Value}
    {bs : List BH}
    (O : On w h₀ s.heap) (hr : Room A 50) (ok : D.Ok) (Z : Fil (some q) D h₀ s.heap e de L added bs) (hf : D.hf = .ref f) (ff : FnAt f h₀) (H : HF w h₀ f D.nh key hs) (hnh : D.nh ≤ hs.length) (TB : Tab h₀ s.heap)
    (ret : ∀ s', Aft [418] s s' → Tab h₀ s'.heap → R (.ok (.ret (.bool (bs.any (BH.has D hs))))) s') :
    codeAny (model PySem.Challenge.rw_sv0019_01.row.prog w) A (.call (.ref 416) ⟨[.ref e, key], []⟩) R s := by
  obtain ⟨hd0, dp0, fr0, gd0, un0⟩ := A
  obtain rfl : hd0 = none := hr.hd
  obtain ⟨t1, t2, t3, t4, n, he, hd, hL, B, hnd, hne⟩ := id Z
  have XS : (hd1.heap_39 w.params).In s.heap := O.wd.1.keeps O.stays
  have n2 := neN (fun q : e = de => At.clash he (q ▸ hd))
  have n3 := neN (fun q : e = L => At.clash he (q ▸ hL))
  have n4 := neN (fun q : de = L => At.clash hd (q ▸ hL))
  have Al : AllAt h₀ s.heap [(e, rotO de L D.hf D.est D.bits added q t1 t2 t3 t4), (de, dictOf [] 0), (L, listO (refs bs) n)] :=
    List.forall_mem_cons.mpr ⟨he, List.forall_mem_cons.mpr ⟨hd, List.forall_mem_cons.mpr ⟨hL, List.forall_mem_nil _⟩⟩⟩
  have q9 := B _ (List.head_mem hne)
  obtain ⟨v1, v2, v3, v4, v5, v6, v7, v8, bsv, bsi, nn, q1, q2, q3, q4, q5⟩ := id q9
  walk_at "bf enter"
  intro g L' h₁ p₁ loose mean mg mb hg0 hg2 F N X T
  (try dsimp only); (try k_fold)
  have M1 : Mod [] s.heap h₁ := mod_of [] hg2 F N Al (fun p hp _ => hp)
  have q1' := (q1.mod M1 (fun z => nomatch z)).1
  have q2' := (q2.mod M1 (fun z => nomatch z)).1
  have X1 : (hd1.heap_39 w.params).In h₁ := X.keeps F.keep
  walk_at "bf steps"
  refine wpAny_call ?_
  refine hashes_spec (h₀ := h₀) (O.fr hg0 F) (hr.down 34).deeper (q9.mod M1 (fun z => nomatch z) (fun z => nomatch z) (fun z => nomatch z)) hf ff H ?_
  intro a h2 tk2 M2 na I2
  dsimp only at *
  have F2 := fr_mod0 F M2
  obtain ⟨pf1, pf2⟩ := pre_fresh B hL.1 M1 na
  obtain ⟨vs, k, za, zi⟩ := I2
  have N2 := news_add (news_mod0 N M2) za.1 (fr_new F na)
  clear N
  walk_at "bf steps"
  rename_i h3 F3 N3
  have M3 : Mod [] s.heap h3 := mod_of [] hg2 F3 N3 Al (fun p hp _ => .tail _ hp)
  refine wpAny_call ?_
  refine checkalt_rot (h₀ := h₀) (D := D) (bs := bs) (hs := hs) (n := n) (O.fr hg0 F3) (hr.down 29).deeper ok (At.ofNews hg0 N3 (.tail _ (.head _))) (At.ofNews hg0 N3 (.tail _ (.tail _ (.head _)))) (At.ofNews hg0 N3 (.tail _ (.tail _ (.tail _ (.head _))))) (B.mod M3 (fun _ _ z => nomatch z)) ⟨vs, k, At.ofNews hg0 N3 (.head _), zi⟩ hnh (TB.mod M3 (fun z => nomatch z)) ?_
  intro s' A4 T4
  dsimp only at *
  exact ret s' ⟨(M3.mono (fun _ z => nomatch z)).trans A4.mod, A4.drawn, A4.os, A4.gens⟩ T4
theorem contains_rot {w : World} {A : Around} {R : Result → Shared → Prop} {s : Shared} {h₀ : Heap} {D : BD} {e de L f : Addr} {added q : Int} {hs : List Int} {key : Value}
    {bs : List BH}
    (O : On w h₀ s.heap) (hr : Room A 51) (ok : D.Ok) (Z : Fil (some q) D h₀ s.heap e de L added bs) (hf : D.hf = .ref f) (ff : FnAt f h₀) (H : HF w h₀ f D.nh key hs) (hnh : D.nh ≤ hs.length) (TB : Tab h₀ s.heap)
    (ret : ∀ s', Aft [418] s s' → Tab h₀ s'.heap → R (.ok (.ret (.bool (bs.any (BH.has D hs))))) s') :
    codeAny (model PySem.Challenge.rw_sv0019_01.row.prog w) A (.call (.ref 362) ⟨[.ref e, key], []⟩) R s := by
  obtain ⟨hd0, dp0, fr0, gd0, un0⟩ := A
  obtain rfl : hd0 = none := hr.hd
  obtain ⟨t1, t2, t3, t4, n, he, hd, hL, B, hnd, hne⟩ := id Z
  have n2 := neN (fun q : e = de => At.clash he (q ▸ hd))
  have Al : AllAt h₀ s.heap [(e, rotO de L D.hf D.est D.bits added q t1 t2 t3 t4), (de, dictOf [] 0)] :=
    List.forall_mem_cons.mpr ⟨he, List.forall_mem_cons.mpr ⟨hd, List.forall_mem_nil _⟩⟩
  walk_at "bf enter"
  intro g L' h₁ p₁ loose mean mg mb hg0 hg2 F N X T
  (try dsimp only); (try k_fold)
  have M1 : Mod [] s.heap h₁ := mod_of [] hg2 F N Al (fun p hp _ => hp)
  walk_at "bf steps"
  refine wpAny_call ?_
  refine check_rot (h₀ := h₀) (D := D) (hs := hs) (O.fr hg0 F) hr.deeper ok (Z.mod0 M1) hf ff H hnh (TB.mod M1 (fun z => nomatch z)) ?_
  intro s' A4 T4
  dsimp only at *
  exact ret s' ⟨(M1.mono (fun _ z => nomatch z)).trans A4.mod, A4.drawn, A4.os, A4.gens⟩ T4
theorem push_rot {w : World} {A : Around} {R : Result → Shared → Prop} {s : Shared} {h₀ : Heap} {D : BD} {e de L : Addr} {added q : Int}
    {bs : List BH}
    (O : On w h₀ s.heap) (hr : Room A 40) (ok : D.Ok) (Z : Fil (some q) D h₀ s.heap e de L added bs) (hsz : bs.length < 900)
    (ret : ∀ bs' h' tk', Mod [L] s.heap h' → Fil (some q) D h₀ h' e de L added bs' → Own s.heap bs bs' → Grow (some q) D true s.heap bs bs' → R (.ok (.ret .none)) { s with heap := h', toks := tk' }) :
    codeAny (model PySem.Challenge.rw_sv0019_01.row.prog w) A (.call (.ref 520) ⟨[.ref e], []⟩) R s := by
  obtain ⟨hd0, dp0, fr0, gd0, un0⟩ := A
  obtain rfl : hd0 = none := hr.hd
  obtain ⟨t1, t2, t3, t4, n, he, hd, hL, B, hnd, hne⟩ := id Z
  have n2 := neN (fun q : e = de => At.clash he (q ▸ hd))
  have n3 := neN (fun q : e = L => At.clash he (q ▸ hL))
  have n4 := neN (fun q : de = L => At.clash hd (q ▸ hL))
  have Al : AllAt h₀ s.heap [(e, rotO de L D.hf D.est D.bits added q t1 t2 t3 t4), (de, dictOf [] 0), (L, listO (refs bs) n)] :=
    List.forall_mem_cons.mpr ⟨he, List.forall_mem_cons.mpr ⟨hd, List.forall_mem_cons.mpr ⟨hL, List.forall_mem_nil _⟩⟩⟩
  walk_at "bf enter"
  intro g L' h₁ p₁ loose mean mg mb hg0 hg2 F N X T
  (try dsimp only); (try k_fold)
  have M1 : Mod [] s.heap h₁ := mod_of [] hg2 F N Al (fun p hp _ => hp)
  have B1 := B.mod M1 (fun _ _ z => nomatch z)
  have hf : L ∉ feet bs := (List.nodup_cons.mp hnd).1
  have k3 : ∀ h2, Mod [L] s.heap h2 → At h₀ h2 e (rotO de L D.hf D.est D.bits added q t1 t2 t3 t4) ∧ At h₀ h2 de (dictOf [] 0) := fun h2 M2 => ⟨he.mod M2 (fun z => n3 (List.mem_singleton.mp z)), hd.mod M2 (fun z => n4 (List.mem_singleton.mp z))⟩
  walk_at "bf steps"
  refine wpAny_call ?_
  refine rot_f (h₀ := h₀) (D := D) hne (O.fr hg0 F) (hr.down 14).deeper ok (At.ofNews hg0 N (.head _)) (At.ofNews hg0 N (.tail _ (.head _))) (At.ofNews hg0 N (.tail _ (.tail _ (.head _)))) B1 (Nat.lt_trans hsz (by decide)) hf ?_
  intro bs' n' h3 tk3 M3 aL B3 G3
  have M13 := (M1.mono (fun _ z => nomatch z)).trans M3
  dsimp only at *
  have F3 := fr_mod F M3 (by simpa using (N _ (.tail _ (.tail _ (.head _)))).2.1.symm) (by simpa using (N _ (.tail _ (.tail _ (.head _)))).2.2)
  clear N
  walk_at "bf steps"
  have G : Grow (some q) D true s.heap bs bs' := ⟨hne, grow_of (by simp) (fun b z => z.back M1 (fun _ z => nomatch z)) G3⟩
  exact ret _ h3 _ M13 ⟨t1, t2, t3, t4, n', (k3 _ M13).1, (k3 _ M13).2, aL, B3, G.nodup hL.1 B hnd B3, G.ne⟩ G.own G
end
end
section
local macro_rules | `(tactic| walk_at "binaryOp Mod int int") => `(tactic| ((with_reducible refine mod8_nat ?_)))
local macro_rules | `(tactic| walk_at "binaryOp Mod int int") => `(tactic| ((with_reducible refine mod_any (by assumption) ?_); intro r1 hr1 hr2))
local macro_rules | `(tactic| walk_at "binaryOp FloorDiv int int") => `(tactic| ((with_reducible refine div8_nat (by omega) ?_)))
local macro_rules | `(tactic| walk_at "binaryOp LShift int int") => `(tactic| ((with_reducible refine shl1_nat (by omega) ?_)))
local macro_rules | `(tactic| walk_at "subscriptTail") => `(tactic| (k_here; (with_reducible show wpAny _ _ (subscriptTail _ _ (Value.ref _) (Value.int _ _)) _ _ _); (with_unfolding_all refine' item_ints ?k1 ?k2 ?k3 ?k4 ?k5 ?_ ?k7; (case k1 => exact News.isList (by k_asm) (by k_mem)); (case k2 => assumption); (case k3 => omega); (case k4 => omega); (case k5 => omega); (case k7 => with_unfolding_all rfl); k_whole); intro _))
local macro_rules | `(tactic| walk_at "bf dec") => `(tactic| ((try simp only [decide_eq_true_eq, decide_eq_false_iff_not, Bool.not_eq_true', Bool.not_eq_false', Bool.not_eq_true, Bool.not_eq_false, beq_iff_eq, Bool.and_eq_true, Bool.not_true, Bool.not_false]); first | rfl | omega))
local macro_rules | `(tactic| walk_at "ite") => `(tactic| (k_here; (first | (k_closed; k_dflt (first | refine ite_pos (by decide) ?_ | refine ite_neg (by decide) ?_)) | refine ite_pos (by first | assumption | (walk_at "bf dec")) ?_ | refine ite_neg (by first | assumption | (walk_at "bf dec")) ?_ | (refine bf_ite ?_ ?_ <;> intro hc)); (try dsimp only)))
local macro_rules | `(tactic| walk_at "bf steps") => `(tactic| repeat' (first | (k_unfold; (try dsimp only)) | (walk1 <;> (try dsimp only)) | fail "no step"))
local macro_rules | `(tactic| walk_at "bf enter") => `(tactic| (refine' enter _ (by assumption) (by assumption) ?ho ?hcd ?hroom ?hbind ?hloc ?_ ?c1 ?c2 ?c3 ?c4; (case ho => k_is); (case hcd => k_is); (case hroom => first | assumption | omega | exact Room.lt (by assumption)); (case hbind => first | exact BindsTo.of_eq rfl | exact binds_K (by assumption) rfl (by k_is) rfl rfl rfl); (case hloc => exact locs rfl); (case c1 => exact rfl); (case c2 => exact rfl); (case c3 => exact rfl); (case c4 => decide)))
local macro_rules | `(tactic| walk_at "getMethod ref") => `(tactic| (k_here; (with_reducible show wpAny _ _ (getMethod _ (Str.ofString "_get_optimized_params") _) _ _ _); k_dflt (refine' cm_slot ?k1 ?k2 ?k3 ?k4 ?k5 ?k6 ?k7 ?k8 ?k9 ?k10 ?k11 ?k12 ?k13 ?_; (case k1 => k_asm); (case k2 => k_asm); (case k3 => k_asm); (case k4 => k_inst); (case k5 => k_is); (case k6 => k_is); (case k7 => k_is); (case k8 => k_is); (case k9 => k_is); (case k10 => k_is); (case k11 => k_is); (case k12 => decide +kernel); (case k13 => k_is); k_whole; intro q' h' F' N' l1; (try k_lt l1))))
local macro_rules | `(tactic| walk_at "callWith ref") => `(tactic| (k_here; (with_reducible show wpAny _ _ (callWith _ _ _ (backTo _ (starEach (_ :: _) _)) []) _ _ _); k_dflt (refine' callWith_K ?k1 ?k2 ?_; (case k1 => k_asm); (case k2 => k_is); k_whole)))
local macro_rules | `(tactic| walk_at "callWith ref") => `(tactic| (k_here; (with_reducible show wpAny _ _ (callWith _ _ _ _ (backToKw _ (keywordEach (_ :: _) _))) _ _ _); k_dflt (refine' callWith_KW ?k1 ?k2 ?k3 ?_; (case k1 => k_asm); (case k2 => k_is); (case k3 => exact rfl); k_whole)))
local macro_rules | `(tactic| walk_at "call builtin:len") => `(tactic| (k_here; (with_reducible show wpAny _ _ (call (Value.builtin "len") [Value.ref _]) _ _ _); (with_unfolding_all refine' call_len_list (items := (refs _).toArray) ?k1 ?k2 ?_; (case k1 => exact News.isList (by k_asm) (by k_mem)); (case k2 => (rw [List.size_toArray]; omega)); k_whole)))
section
theorem inite_exp {w : World} {A : Around} {R : Result → Shared → Prop} {s : Shared} {h₀ : Heap} {D : BD} {e de f : Addr} {a1 a2 : Tok}
    (O : On w h₀ s.heap) (hr : Room A 40) (ok : D.Ok) (he : At h₀ s.heap e (instObj 457 de)) (hd : At h₀ s.heap de (dictOf [] 0)) (hf : D.hf = .ref f)
    (ret : ∀ t1 t2 t3 n' L x dx l h' tk', Mod [e] s.heap h' → s.heap.get? L = none → s.heap.get? x = none → s.heap.get? dx = none → s.heap.get? l = none → L ∉ [x, dx, l] → At h₀ h' e (expO de L D.hf D.est D.bits 0 t1 t2 t3) → At h₀ h' L (listO (refs [⟨x, dx, l, 0, fun _ => false⟩]) n') →
      IsBloom D h₀ h' x dx l 0 (fun _ => false) → R (.ok (.ret .none)) { s with heap := h', toks := tk' }) :
    codeAny (model PySem.Challenge.rw_sv0019_01.row.prog w) A (.call (.ref 355) ⟨[.ref e, .int D.est a1, .int D.bits a2], [(Str.ofString "hash_function", .ref f)]⟩) R s := by
  obtain ⟨hd0, dp0, fr0, gd0, un0⟩ := A
  obtain rfl : hd0 = none := hr.hd
  obtain ⟨bits, est, nh, nb, hf'⟩ := D
  dsimp only at *
  subst hf
  have n2 := neN (fun q : e = de => At.clash he (q ▸ hd))
  have XS : (hd1.heap_39 w.params).In s.heap := O.wd.1.keeps O.stays
  have Al : AllAt h₀ s.heap [(e, instObj 457 de), (de, dictOf [] 0)] := List.forall_mem_cons.mpr ⟨he, List.forall_mem_cons.mpr ⟨hd, List.forall_mem_nil _⟩⟩
  walk_at "bf enter"
  intro g L' h₁ p₁ loose mean mg mb hg0 hg2 F N X T
  (try dsimp only); (try k_fold)
  walk_at "bf steps"
  rename_i _ Lb _ l1 _ _ _ _ _ _ _ _ h6 F6 N6
  have M6 : Mod [e] s.heap h6 := mod_of [e] hg2 F6 N6 Al (fun p hp hW => by
    rcases List.mem_cons.mp hp with rfl | hp
    · exact absurd (List.mem_singleton.mpr rfl) hW
    rcases List.mem_cons.mp hp with rfl | hp
    · exact .tail _ (.tail _ (.head _))
    · cases hp)
  have eL : e ≠ Lb := fun z => Nat.lt_irrefl _ (z ▸ l1.1 : e < e)
  have dL : de ≠ Lb := fun z => Nat.lt_irrefl _ (z ▸ l1.2 : de < de)
  have nL : s.heap.get? Lb = none := new_of (news₀ := [(e, instObj 457 de), (de, dictOf [] 0)]) hg2 N6 (.head _) (by simp [eL.symm, dL.symm])
  have hW : ∀ a ∈ [e], ∃ o, h6.get? a = some o := fun a z => by rw [List.mem_singleton.mp z]; exact ⟨_, (N6 _ (.tail _ (.head _))).1⟩
  have ae := At.ofNews hg0 N6 (.tail _ (.head _))
  have aL6 := (N6 _ (.head _)).1
  refine wpAny_call ?_
  refine addb_exp (h₀ := h₀) (D := ⟨bits, est, nh, nb, .ref f⟩) (bs := []) (q := 0) (t4 := a1) (O.fr hg0 F6) (hr.down 19).deeper ok ae (At.ofNews hg0 N6 (.tail _ (.tail _ (.head _)))) (At.ofNews hg0 N6 (.head _)) (by decide) ?_
  intro x dx l n' h7 tk7 M7 nx nd nl aL aB
  have F7 := fr_mod F6 M7 (by simpa using (N6 _ (.head _)).2.1.symm) (by simpa using (N6 _ (.head _)).2.2)
  dsimp only at *
  clear N6
  walk_at "bf steps"
  refine ret _ _ _ n' Lb x dx l h7 _ (fun a o ha ho => M7 a o (fun z => by rw [List.mem_singleton.mp z, nL] at ho; cases ho) (M6 a o ha ho)) nL (none_ofW M6 hW nx) (none_ofW M6 hW nd) (none_ofW M6 hW nl) ?_ (ae.mod M7 (fun z => eL (List.mem_singleton.mp z))) aL aB
  intro z
  rcases List.mem_cons.mp z with z | z
  · rw [← z, aL6] at nx; cases nx
  rcases List.mem_cons.mp z with z | z
  · rw [← z, aL6] at nd; cases nd
  rcases List.mem_cons.mp z with z | z
  · rw [← z, aL6] at nl; cases nl
  · cases z
theorem inite_sup {w : World} {A : Around} {R : Result → Shared → Prop} {s : Shared} {h₀ : Heap} {D : BD} {e de f : Addr} {a1 a2 : Tok}
    (O : On w h₀ s.heap) (hr : Room A 40) (ok : D.Ok) (he : At h₀ s.heap e (instObj 539 de)) (hd : At h₀ s.heap de (dictOf [] 0)) (hf : D.hf = .ref f)
    (ret : ∀ t1 t2 t3 n' L x dx l h' tk', Mod [e] s.heap h' → s.heap.get? L = none → s.heap.get? x = none → s.heap.get? dx = none → s.heap.get? l = none → L ∉ [x, dx, l] → At h₀ h' e (rot0 de L D.hf D.est D.bits 0 t1 t2 t3) → At h₀ h' L (listO (refs [⟨x, dx, l, 0, fun _ => false⟩]) n') →
      IsBloom D h₀ h' x dx l 0 (fun _ => false) → R (.ok (.ret .none)) { s with heap := h', toks := tk' }) :
    codeAny (model PySem.Challenge.rw_sv0019_01.row.prog w) A (.call (.ref 355) ⟨[.ref e], [(Str.ofString "est_elements", .int D.est a1), (Str.ofString "false_positive_rate", .int D.bits a2), (Str.ofString "filepath", .none), (Str.ofString "hash_function", .ref f)]⟩) R s := by
  obtain ⟨hd0, dp0, fr0, gd0, un0⟩ := A
  obtain rfl : hd0 = none := hr.hd
  obtain ⟨bits, est, nh, nb, hf'⟩ := D
  dsimp only at *
  subst hf
  have n2 := neN (fun q : e = de => At.clash he (q ▸ hd))
  have XS : (hd1.heap_39 w.params).In s.heap := O.wd.1.keeps O.stays
  have Al : AllAt h₀ s.heap [(e, instObj 539 de), (de, dictOf [] 0)] := List.forall_mem_cons.mpr ⟨he, List.forall_mem_cons.mpr ⟨hd, List.forall_mem_nil _⟩⟩
  walk_at "bf enter"
  intro g L' h₁ p₁ loose mean mg mb hg0 hg2 F N X T
  (try dsimp only); (try k_fold)
  walk_at "bf steps"
  rename_i _ Lb _ l1 _ _ _ _ _ _ _ _ h6 F6 N6
  have M6 : Mod [e] s.heap h6 := mod_of [e] hg2 F6 N6 Al (fun p hp hW => by
    rcases List.mem_cons.mp hp with rfl | hp
    · exact absurd (List.mem_singleton.mpr rfl) hW
    rcases List.mem_cons.mp hp with rfl | hp
    · exact .tail _ (.tail _ (.head _))
    · cases hp)
  have eL : e ≠ Lb := fun z => Nat.lt_irrefl _ (z ▸ l1.1 : e < e)
  have dL : de ≠ Lb := fun z => Nat.lt_irrefl _ (z ▸ l1.2 : de < de)
  have nL : s.heap.get? Lb = none := new_of (news₀ := [(e, instObj 539 de), (de, dictOf [] 0)]) hg2 N6 (.head _) (by simp [eL.symm, dL.symm])
  have hW : ∀ a ∈ [e], ∃ o, h6.get? a = some o := fun a z => by rw [List.mem_singleton.mp z]; exact ⟨_, (N6 _ (.tail _ (.head _))).1⟩
  have ae := At.ofNews hg0 N6 (.tail _ (.head _))
  have aL6 := (N6 _ (.head _)).1
  refine wpAny_call ?_
  refine addb_sup (h₀ := h₀) (D := ⟨bits, est, nh, nb, .ref f⟩) (bs := []) (q := 0) (t4 := a1) (O.fr hg0 F6) (hr.down 19).deeper ok ae (At.ofNews hg0 N6 (.tail _ (.tail _ (.head _)))) (At.ofNews hg0 N6 (.head _)) (by decide) ?_
  intro x dx l n' h7 tk7 M7 nx nd nl aL aB
  have F7 := fr_mod F6 M7 (by simpa using (N6 _ (.head _)).2.1.symm) (by simpa using (N6 _ (.head _)).2.2)
  dsimp only at *
  clear N6
  walk_at "bf steps"
  refine ret _ _ _ n' Lb x dx l h7 _ (fun a o ha ho => M7 a o (fun z => by rw [List.mem_singleton.mp z, nL] at ho; cases ho) (M6 a o ha ho)) nL (none_ofW M6 hW nx) (none_ofW M6 hW nd) (none_ofW M6 hW nl) ?_ (ae.mod M7 (fun z => eL (List.mem_singleton.mp z))) aL aB
  intro z
  rcases List.mem_cons.mp z with z | z
  · rw [← z, aL6] at nx; cases nx
  rcases List.mem_cons.mp z with z | z
  · rw [← z, aL6] at nd; cases nd
  rcases List.mem_cons.mp z with z | z
  · rw [← z, aL6] at nl; cases nl
  · cases z
end
section
theorem enterS {w : World} {A : Around} {R : Result → Shared → Prop} {s : Shared} {h₀ : Heap} {name qual : Str} {params : Arguments} {body : List Stmt} {scope : Scope} {dV kV doc pm cdv ct oc : Value} {an od : Option Addr} {osl : Array (Option Value)} {f cc : Addr} {args : Args} {binds : List (Str × Value)}
    (news : List (Addr × Obj))
    (O : On w h₀ s.heap) (N : AllAt h₀ s.heap news)
    (ho : (hd1.heap_39 w.params).lookup f = some ⟨oc, od, .func (ksFn name qual params body scope dV kV doc pm an cdv ct cc), osl⟩) (hcd : codeIn (hd1.heap_39 w.params) cdv qual = true) (hroom : A.depth < recursionLimit)
    (hbind : BindsTo s (ksFn name qual params body scope dV kV doc pm an cdv ct cc) args binds) (hloc : ∀ y ∈ binds, scope.names.lookup y.1 = some .local)
    (h : ∀ (g : Heap) (L' : Addr) (h₁ : Heap) (p : Program) (loose : List Str) (mean : ExcName → Option Value) (mg mb : Str → Option Value),
      (∀ b o, h₀.get? b = some o → g.get? b = some o) → (∀ b o, b ∉ news.map (·.1) → s.heap.get? b = some o → g.get? b = some o) → Fr g L' h₁ (fun y => binds.reverse.lookup y) → News g L' h₁ news → (hd1.heap_39 w.params).In g → Top p loose mean mg mb g → (∀ p ∈ news, p.1 < L') →
      _root_.PySem.wpAt (model PySem.Challenge.rw_sv0019_01.row.prog w) (A.deeper (ksEnv qual scope L' f cdv cc)) (.func body (ksEnv qual scope L' f cdv cc)) (execs body (ksEnv qual scope L' f cdv cc))
        (fun fl s' => R (.ok (.ret (match fl with | .ret v => v | _ => .none))) s')
        (fun _ _ => False)
        { s with heap := h₁, toks := s.toks + binds.length })
    (hcell : ∀ x ∈ scope.names, x.2 ≠ .cell) (hco : scope.isCoroutine = false) (hgen : scope.isGenerator = false) (hk : scope.kind = .function) : codeAny (model PySem.Challenge.rw_sv0019_01.row.prog w) A (.call (.ref f) args) R s := by
  obtain ⟨⟨X₀, p, loose, mean, mg, mb, T⟩, st⟩ := O
  have nm : ∀ b o, h₀.get? b = some o → b ∉ news.map (·.1) := fun b o e q => by
    obtain ⟨p, hp, rfl⟩ := List.mem_map.mp q
    rw [(N p hp).2] at e; cases e
  have st' : ∀ b o, h₀.get? b = some o → (hideAll s.heap (news.map (·.1))).get? b = some o := fun b o e => hideAll_get _ (st b o e) (nm b o e)
  refine ks_codeAny_call_defAt (fd := ksFn name qual params body scope dV kV doc pm an cdv ct cc) (body := body) (binds := binds) hroom ((X₀.keeps st) _ _ ho) rfl (T.nolimit.keeps st) (codeRec_of (X₀.keeps st) hcd) rfl hbind hcell hloc (fun h₁ hns hk₁ => ?_) hco hgen hk
  exact ks_wpAt_mono (h (hideAll s.heap (news.map (·.1))) s.heap.objs.size h₁ p loose mean mg mb st' (fun b o hb e => hideAll_get _ e hb) ⟨hns, fun b o e => hk₁ b o (of_hideAll _ e), Nat.le_of_eq (hideAll_size _ _)⟩
    (fun p hp => ⟨hk₁ _ _ (N p hp).1, Nat.ne_of_lt (Heap.lt_size (N p hp).1), hideAll_none _ (List.mem_map_of_mem hp)⟩) (X₀.keeps st') (T.keeps st') (fun p hp => Heap.lt_size (N p hp).1)) (fun _ _ y => y) (fun _ _ y => y.elim)
theorem ks_wpAt_MethodCallKW {M : Model} {A : Around} {c : Code} {E : Value → Shared → Prop} {s : Shared} {env : Env} {o : PySem.Expr} {name : Str} {apos pos : Pos} {args : List PySem.Expr} {kws : List Keyword} {pl : Sem Bool} {Q : Value → Shared → Prop}
    (h : _root_.PySem.wpAt M A c (attributeBase o name env (eval o env)) (fun ov s₁ => wpAny M A (getMethod ov name pl) (fun fx s₂ => wpAny M A (callWith pos fx.1 fx.2 (backTo pos (starEach args env)) (backToKw pos (keywordEach kws env))) Q E s₂) E s₁) E s)
    (he : eval (.Call (.Attribute o name apos) args kws pos) env = (do
      let ov ← attributeBase o name env (eval o env)
      standAt apos.atName
      let (f, first) ← holding [ov] (getMethod ov name pl)
      callWith pos f first (backTo pos (starEach args env)) (backToKw pos (keywordEach kws env))) := by rfl) :
    _root_.PySem.wpAt M A c (eval (.Call (.Attribute o name apos) args kws pos) env) Q E s := by
  rw [he]
  refine _root_.PySem.wpAt_bind (ks_wpAt_mono h (fun ov s₁ h₁ => _root_.PySem.wpAt_of_wpAny (wpAny_bind (wpAny_standAt (wpAny_bind (wpAny_holding (wpAny_mono h₁ (fun fx s₂ h₂ => ?_) fun _ _ x => x)))))) fun _ _ x => x)
  exact h₂
theorem callWith_MKW0 {M : Model} {A : Around} {E : Value → Shared → Prop} {s : Shared} {K : Frag} {env : Env} {pos : Pos} {kws : List Keyword} {Q : Value → Shared → Prop} {q g : Addr} {self : Value} (hf : fnIn K g = true)
    (h : wpAny M A (evalAll ((backToKw pos (keywordEach kws env)).map (·.2))) (fun ks s₁ => MethP K q g self s₁.heap ∧ wpAny M A (call (.ref q) [] (((backToKw pos (keywordEach kws env)).filterMap (·.1)).zip ks)) Q E s₁) E s)
    (hall : (backToKw pos (keywordEach kws env)).all (·.1.isSome) = true := by rfl) (hplain : ((backToKw pos (keywordEach kws env)).any (·.1.isNone)) = false := by rfl) :
    wpAny M A (callWith pos (.ref q) [] (backTo pos (starEach [] env)) (backToKw pos (keywordEach kws env))) Q E s :=
  callWith_of (by show (false || _) = false; rw [hplain]; rfl) (keeps_M hf) (evalArgs_kw_nil hall h)
end
section
theorem new_exp {w : World} {A : Around} {R : Result → Shared → Prop} {s : Shared} {h₀ : Heap} {D : BD} {f : Addr} {a1 a2 : Tok}
    (O : On w h₀ s.heap) (hr : Room A 41) (ok : D.Ok) (hf : D.hf = .ref f)
    (ret : ∀ e de L b h' tk', Mod [] s.heap h' → s.heap.get? e = none → s.heap.get? de = none → s.heap.get? L = none → FreshB s.heap b → Fil none D h₀ h' e de L 0 [b] → R (.ok (.ret (.ref e))) { s with heap := h', toks := tk' }) :
    codeAny (model PySem.Challenge.rw_sv0019_01.row.prog w) A (.call (.ref 457) ⟨[.int D.est a1, .int D.bits a2], [(Str.ofString "hash_function", .ref f)]⟩) R s := by
  have XS : (hd1.heap_39 w.params).In s.heap := O.wd.1.keeps O.stays
  refine' make_raw XS ?k1 ?k2 ?k3 ?_
  case k1 => k_is
  case k2 => k_is
  case k3 => k_is
  intro e de h1 M1 he hd ne nd
  have n0 : ∀ a, s.heap.get? a = none → h₀.get? a = none := fun a e => by
    cases q : h₀.get? a with
    | none => rfl
    | some o => rw [O.stays _ _ q] at e; cases e
  refine inite_exp (h₀ := h₀) (D := D) (O.mod M1 (fun _ h => nomatch h)) hr.under ok ⟨he, n0 _ ne⟩ ⟨hd, n0 _ nd⟩ hf ?_
  intro t1 t2 t3 n' L x dx l h2 tk2 M2 nL nx ndx nl nin ae aL aB
  have ed : e ≠ de := fun z => by rw [z, hd] at he; cases he
  refine ⟨rfl, ret e de L ⟨x, dx, l, 0, fun _ => false⟩ h2 tk2 (fun b o _ q => M2 b o (by simpa using ne_new q ne) (M1 b o (by simp) q)) ne nd (none_of M1 nL) ⟨none_of M1 nx, none_of M1 ndx, none_of M1 nl, rfl, rfl⟩ ?_⟩
  refine ⟨t1, t2, t3, t1, n', ae, ⟨M2 _ _ (by simpa using ed.symm) hd, n0 _ nd⟩, aL, fun b hb => by rw [List.mem_singleton.mp hb]; exact aB, ?_, by simp⟩
  obtain ⟨_, _, _, _, _, _, _, _, _, _, _, q1, q2, q3, _⟩ := aB
  have d1 : x ≠ dx := fun z => At.clash q1 (z ▸ q2)
  have d2 : x ≠ l := fun z => At.clash q1 (z ▸ q3)
  have d3 : dx ≠ l := fun z => At.clash q2 (z ▸ q3)
  have : L :: feet [⟨x, dx, l, 0, fun _ => false⟩] = L :: [x, dx, l] := rfl
  rw [this, List.nodup_cons]
  exact ⟨nin, by simp [d1, d2, d3]⟩
theorem initr {w : World} {A : Around} {R : Result → Shared → Prop} {s : Shared} {h₀ : Heap} {D : BD} {e de f : Addr} {a1 a2 a3 : Tok} {q : Int}
    (O : On w h₀ s.heap) (hr : Room A 46) (ok : D.Ok) (he : At h₀ s.heap e (instObj 539 de)) (hd : At h₀ s.heap de (dictOf [] 0)) (hf : D.hf = .ref f)
    (ret : ∀ t1 t2 t3 t4 n' L x dx l h' tk', Mod [e] s.heap h' → s.heap.get? L = none → s.heap.get? x = none → s.heap.get? dx = none → s.heap.get? l = none → L ∉ [x, dx, l] → At h₀ h' e (rotO de L D.hf D.est D.bits 0 q t1 t2 t3 t4) → At h₀ h' L (listO (refs [⟨x, dx, l, 0, fun _ => false⟩]) n') →
      IsBloom D h₀ h' x dx l 0 (fun _ => false) → R (.ok (.ret .none)) { s with heap := h', toks := tk' }) :
    codeAny (model PySem.Challenge.rw_sv0019_01.row.prog w) A (.call (.ref 482) ⟨[.ref e, .int D.est a1, .int D.bits a2], [(Str.ofString "max_queue_size", .int q a3), (Str.ofString "hash_function", .ref f)]⟩) R s := by
  obtain ⟨hd0, dp0, fr0, gd0, un0⟩ := A
  obtain rfl : hd0 = none := hr.hd
  obtain ⟨bits, est, nh, nb, hf'⟩ := D
  dsimp only at *
  subst hf
  have n2 := neN (fun q : e = de => At.clash he (q ▸ hd))
  have XS : (hd1.heap_39 w.params).In s.heap := O.wd.1.keeps O.stays
  have Al : AllAt h₀ s.heap [(e, instObj 539 de), (de, dictOf [] 0)] := List.forall_mem_cons.mpr ⟨he, List.forall_mem_cons.mpr ⟨hd, List.forall_mem_nil _⟩⟩
  refine' enterS _ O Al ?ho ?hcd ?hroom ?hbind ?hloc ?_ ?c1 ?c2 ?c3 ?c4
  case ho => k_is
  case hcd => k_is
  case hroom => exact hr.lt
  case hbind => first | exact BindsTo.of_eq rfl | exact binds_K (by assumption) rfl (by k_is) rfl rfl rfl
  case hloc => exact locs rfl
  case c1 => decide
  case c2 => exact rfl
  case c3 => exact rfl
  case c4 => exact rfl
  intro g L' h₁ p₁ loose mean mg mb hg0 hg2 F N X T lL
  (try dsimp only); (try k_fold)
  refine ks_wpAt_execs_cons ?_
  refine ks_wpAt_Expr_any ?_
  refine ks_wpAt_MethodCallKW ?_
  (walk1; try dsimp only)
  (walk1; try dsimp only)
  rename_i q' h2 F2 N2 l2
  refine callWith_MKW0 (K := hd1.heap_39 w.params) (g := 355) (self := .ref e) ?fi ?_
  case fi => k_is
  walk_at "bf steps"
  have Ne := N2 _ (.tail _ (.tail _ (.head _)))
  have Nde := N2 _ (.tail _ (.tail _ (.tail _ (.head _))))
  have M02 : Mod [] s.heap h2 := mod_of [] hg2 F2 N2 Al (fun p hp _ => .tail _ (.tail _ hp))
  refine wpAny_call (method_call (N2 _ (.head _)).1 ?_)
  refine inite_sup (h₀ := h₀) (D := ⟨bits, est, nh, nb, .ref f⟩) (O.fr hg0 F2) (hr.down 5).deeper ok (At.ofNews hg0 N2 (.tail _ (.tail _ (.head _)))) (At.ofNews hg0 N2 (.tail _ (.tail _ (.tail _ (.head _))))) rfl ?_
  intro t1 t2 t3 n' L x dx l h3 tk3 M3 nL nx nd nl nin ae aL aB
  have F3 := fr_mod F2 M3 (by simpa using Ne.2.1.symm) (by simpa using Ne.2.2)
  have m1 := neN (ne_new Ne.1 nx)
  have m2 := neN (ne_new Ne.1 nd)
  have m3 := neN (ne_new Ne.1 nl)
  have m4 := neN (ne_new Ne.1 nL)
  have ade : h3.get? de = some (dictOf [] 0) := M3 _ _ (by simpa using n2.symm) Nde.1
  obtain ⟨u1, u2, u3, u4, u5, u6, u7, u8, bsv, bsi, nn, q4, q5, N4⟩ := bloom_news F3 (news_add (news_add (news_add (News.nil (h := h3)) aL.1 (fr_new F2 nL)) ae.1 Ne.2) ade Nde.2) (fr_new F2 nx) (fr_new F2 nd) (fr_new F2 nl) aB
  clear N2
  dsimp only at *
  walk_at "bf steps"
  rename_i h5 F5 N5
  refine ret _ _ _ _ n' L x dx l h5 _ (mod_of [e] hg2 F5 N5 Al (fun p hp hW => by
    rcases List.mem_cons.mp hp with rfl | hp
    · exact absurd (List.mem_singleton.mpr rfl) hW
    rcases List.mem_cons.mp hp with rfl | hp
    · exact .tail _ (.tail _ (.tail _ (.head _)))
    · cases hp)) (none_of M02 nL) (none_of M02 nx) (none_of M02 nd) (none_of M02 nl) nin (At.ofNews hg0 N5 (.tail _ (.tail _ (.tail _ (.tail _ (.head _)))))) (At.ofNews hg0 N5 (.tail _ (.tail _ (.tail _ (.tail _ (.tail _ (.head _)))))))
    ⟨u1, u2, u3, u4, u5, u6, u7, u8, bsv, bsi, nn, At.ofNews hg0 N5 (.head _), At.ofNews hg0 N5 (.tail _ (.head _)), At.ofNews hg0 N5 (.tail _ (.tail _ (.head _))), q4, q5⟩
theorem new_rot {w : World} {A : Around} {R : Result → Shared → Prop} {s : Shared} {h₀ : Heap} {D : BD} {f : Addr} {a1 a2 a3 : Tok} {q : Int}
    (O : On w h₀ s.heap) (hr : Room A 47) (ok : D.Ok) (hf : D.hf = .ref f)
    (ret : ∀ e de L b h' tk', Mod [] s.heap h' → s.heap.get? e = none → s.heap.get? de = none → s.heap.get? L = none → FreshB s.heap b → Fil (some q) D h₀ h' e de L 0 [b] → R (.ok (.ret (.ref e))) { s with heap := h', toks := tk' }) :
    codeAny (model PySem.Challenge.rw_sv0019_01.row.prog w) A (.call (.ref 539) ⟨[.int D.est a1, .int D.bits a2], [(Str.ofString "max_queue_size", .int q a3), (Str.ofString "hash_function", .ref f)]⟩) R s := by
  have XS : (hd1.heap_39 w.params).In s.heap := O.wd.1.keeps O.stays
  refine' make_raw XS ?k1 ?k2 ?k3 ?_
  case k1 => k_is
  case k2 => k_is
  case k3 => k_is
  intro e de h1 M1 he hd ne nd
  have n0 : ∀ a, s.heap.get? a = none → h₀.get? a = none := fun a e => by
    cases q : h₀.get? a with
    | none => rfl
    | some o => rw [O.stays _ _ q] at e; cases e
  refine initr (h₀ := h₀) (D := D) (O.mod M1 (fun _ h => nomatch h)) hr.under ok ⟨he, n0 _ ne⟩ ⟨hd, n0 _ nd⟩ hf ?_
  intro t1 t2 t3 t4 n' L x dx l h2 tk2 M2 nL nx ndx nl nin ae aL aB
  have ed : e ≠ de := fun z => by rw [z, hd] at he; cases he
  refine ⟨rfl, ret e de L ⟨x, dx, l, 0, fun _ => false⟩ h2 tk2 (fun b o _ q => M2 b o (by simpa using ne_new q ne) (M1 b o (by simp) q)) ne nd (none_of M1 nL) ⟨none_of M1 nx, none_of M1 ndx, none_of M1 nl, rfl, rfl⟩ ?_⟩
  refine ⟨t1, t2, t3, t4, n', ae, ⟨M2 _ _ (by simpa using ed.symm) hd, n0 _ nd⟩, aL, fun b hb => by rw [List.mem_singleton.mp hb]; exact aB, ?_, by simp⟩
  obtain ⟨_, _, _, _, _, _, _, _, _, _, _, q1, q2, q3, _⟩ := aB
  have d1 : x ≠ dx := fun z => At.clash q1 (z ▸ q2)
  have d2 : x ≠ l := fun z => At.clash q1 (z ▸ q3)
  have d3 : dx ≠ l := fun z => At.clash q2 (z ▸ q3)
  have : L :: feet [⟨x, dx, l, 0, fun _ => false⟩] = L :: [x, dx, l] := rfl
  rw [this, List.nodup_cons]
  exact ⟨nin, by simp [d1, d2, d3]⟩
end
section
theorem initr2 {w : World} {A : Around} {R : Result → Shared → Prop} {s : Shared} {h₀ : Heap} {D : BD} {e de f : Addr} {a1 a2 a3 : Tok} {q : Int}
    (O : On w h₀ s.heap) (hr : Room A 46) (ok : D.Ok) (he : At h₀ s.heap e (instObj 539 de)) (hd : At h₀ s.heap de (dictOf [] 0)) (hf : D.hf = .ref f)
    (ret : ∀ t1 t2 t3 t4 n' L x dx l h' tk', Mod [e] s.heap h' → s.heap.get? L = none → s.heap.get? x = none → s.heap.get? dx = none → s.heap.get? l = none → L ∉ [x, dx, l] → At h₀ h' e (rotO de L D.hf D.est D.bits 0 q t1 t2 t3 t4) → At h₀ h' L (listO (refs [⟨x, dx, l, 0, fun _ => false⟩]) n') →
      IsBloom D h₀ h' x dx l 0 (fun _ => false) → R (.ok (.ret .none)) { s with heap := h', toks := tk' }) :
    codeAny (model PySem.Challenge.rw_sv0019_01.row.prog w) A (.call (.ref 482) ⟨[.ref e, .int D.est a1, .int D.bits a2, .int q a3], [(Str.ofString "hash_function", .ref f)]⟩) R s := by
  obtain ⟨hd0, dp0, fr0, gd0, un0⟩ := A
  obtain rfl : hd0 = none := hr.hd
  obtain ⟨bits, est, nh, nb, hf'⟩ := D
  dsimp only at *
  subst hf
  have n2 := neN (fun q : e = de => At.clash he (q ▸ hd))
  have XS : (hd1.heap_39 w.params).In s.heap := O.wd.1.keeps O.stays
  have Al : AllAt h₀ s.heap [(e, instObj 539 de), (de, dictOf [] 0)] := List.forall_mem_cons.mpr ⟨he, List.forall_mem_cons.mpr ⟨hd, List.forall_mem_nil _⟩⟩
  refine' enterS _ O Al ?ho ?hcd ?hroom ?hbind ?hloc ?_ ?c1 ?c2 ?c3 ?c4
  case ho => k_is
  case hcd => k_is
  case hroom => exact hr.lt
  case hbind => first | exact BindsTo.of_eq rfl | exact binds_K (by assumption) rfl (by k_is) rfl rfl rfl
  case hloc => exact locs rfl
  case c1 => decide
  case c2 => exact rfl
  case c3 => exact rfl
  case c4 => exact rfl
  intro g L' h₁ p₁ loose mean mg mb hg0 hg2 F N X T lL
  (try dsimp only); (try k_fold)
  refine ks_wpAt_execs_cons ?_
  refine ks_wpAt_Expr_any ?_
  refine ks_wpAt_MethodCallKW ?_
  (walk1; try dsimp only)
  (walk1; try dsimp only)
  rename_i q' h2 F2 N2 l2
  refine callWith_MKW0 (K := hd1.heap_39 w.params) (g := 355) (self := .ref e) ?fi ?_
  case fi => k_is
  walk_at "bf steps"
  have Ne := N2 _ (.tail _ (.tail _ (.head _)))
  have Nde := N2 _ (.tail _ (.tail _ (.tail _ (.head _))))
  have M02 : Mod [] s.heap h2 := mod_of [] hg2 F2 N2 Al (fun p hp _ => .tail _ (.tail _ hp))
  refine wpAny_call (method_call (N2 _ (.head _)).1 ?_)
  refine inite_sup (h₀ := h₀) (D := ⟨bits, est, nh, nb, .ref f⟩) (O.fr hg0 F2) (hr.down 5).deeper ok (At.ofNews hg0 N2 (.tail _ (.tail _ (.head _)))) (At.ofNews hg0 N2 (.tail _ (.tail _ (.tail _ (.head _))))) rfl ?_
  intro t1 t2 t3 n' L x dx l h3 tk3 M3 nL nx nd nl nin ae aL aB
  have F3 := fr_mod F2 M3 (by simpa using Ne.2.1.symm) (by simpa using Ne.2.2)
  have m1 := neN (ne_new Ne.1 nx)
  have m2 := neN (ne_new Ne.1 nd)
  have m3 := neN (ne_new Ne.1 nl)
  have m4 := neN (ne_new Ne.1 nL)
  have ade : h3.get? de = some (dictOf [] 0) := M3 _ _ (by simpa using n2.symm) Nde.1
  obtain ⟨u1, u2, u3, u4, u5, u6, u7, u8, bsv, bsi, nn, q4, q5, N4⟩ := bloom_news F3 (news_add (news_add (news_add (News.nil (h := h3)) aL.1 (fr_new F2 nL)) ae.1 Ne.2) ade Nde.2) (fr_new F2 nx) (fr_new F2 nd) (fr_new F2 nl) aB
  clear N2
  dsimp only at *
  walk_at "bf steps"
  rename_i h5 F5 N5
  refine ret _ _ _ _ n' L x dx l h5 _ (mod_of [e] hg2 F5 N5 Al (fun p hp hW => by
    rcases List.mem_cons.mp hp with rfl | hp
    · exact absurd (List.mem_singleton.mpr rfl) hW
    rcases List.mem_cons.mp hp with rfl | hp
    · exact .tail _ (.tail _ (.tail _ (.head _)))
    · cases hp)) (none_of M02 nL) (none_of M02 nx) (none_of M02 nd) (none_of M02 nl) nin (At.ofNews hg0 N5 (.tail _ (.tail _ (.tail _ (.tail _ (.head _)))))) (At.ofNews hg0 N5 (.tail _ (.tail _ (.tail _ (.tail _ (.tail _ (.head _)))))))
    ⟨u1, u2, u3, u4, u5, u6, u7, u8, bsv, bsi, nn, At.ofNews hg0 N5 (.head _), At.ofNews hg0 N5 (.tail _ (.head _)), At.ofNews hg0 N5 (.tail _ (.tail _ (.head _))), q4, q5⟩
theorem new_rot2 {w : World} {A : Around} {R : Result → Shared → Prop} {s : Shared} {h₀ : Heap} {D : BD} {f : Addr} {a1 a2 a3 : Tok} {q : Int}
    (O : On w h₀ s.heap) (hr : Room A 47) (ok : D.Ok) (hf : D.hf = .ref f)
    (ret : ∀ e de L b h' tk', Mod [] s.heap h' → s.heap.get? e = none → s.heap.get? de = none → s.heap.get? L = none → FreshB s.heap b → Fil (some q) D h₀ h' e de L 0 [b] → R (.ok (.ret (.ref e))) { s with heap := h', toks := tk' }) :
    codeAny (model PySem.Challenge.rw_sv0019_01.row.prog w) A (.call (.ref 539) ⟨[.int D.est a1, .int D.bits a2, .int q a3], [(Str.ofString "hash_function", .ref f)]⟩) R s := by
  have XS : (hd1.heap_39 w.params).In s.heap := O.wd.1.keeps O.stays
  refine' make_raw XS ?k1 ?k2 ?k3 ?_
  case k1 => k_is
  case k2 => k_is
  case k3 => k_is
  intro e de h1 M1 he hd ne nd
  have n0 : ∀ a, s.heap.get? a = none → h₀.get? a = none := fun a e => by
    cases q : h₀.get? a with
    | none => rfl
    | some o => rw [O.stays _ _ q] at e; cases e
  refine initr2 (h₀ := h₀) (D := D) (O.mod M1 (fun _ h => nomatch h)) hr.under ok ⟨he, n0 _ ne⟩ ⟨hd, n0 _ nd⟩ hf ?_
  intro t1 t2 t3 t4 n' L x dx l h2 tk2 M2 nL nx ndx nl nin ae aL aB
  have ed : e ≠ de := fun z => by rw [z, hd] at he; cases he
  refine ⟨rfl, ret e de L ⟨x, dx, l, 0, fun _ => false⟩ h2 tk2 (fun b o _ q => M2 b o (by simpa using ne_new q ne) (M1 b o (by simp) q)) ne nd (none_of M1 nL) ⟨none_of M1 nx, none_of M1 ndx, none_of M1 nl, rfl, rfl⟩ ?_⟩
  refine ⟨t1, t2, t3, t4, n', ae, ⟨M2 _ _ (by simpa using ed.symm) hd, n0 _ nd⟩, aL, fun b hb => by rw [List.mem_singleton.mp hb]; exact aB, ?_, by simp⟩
  obtain ⟨_, _, _, _, _, _, _, _, _, _, _, q1, q2, q3, _⟩ := aB
  have d1 : x ≠ dx := fun z => At.clash q1 (z ▸ q2)
  have d2 : x ≠ l := fun z => At.clash q1 (z ▸ q3)
  have d3 : dx ≠ l := fun z => At.clash q2 (z ▸ q3)
  have : L :: feet [⟨x, dx, l, 0, fun _ => false⟩] = L :: [x, dx, l] := rfl
  rw [this, List.nodup_cons]
  exact ⟨nin, by simp [d1, d2, d3]⟩
end
section
section
variable {prog : Program} {w : World} {A : Around} {R : Result → Shared → Prop} {h : Heap} {g : Array GenState} {d : Drawn} {t : Nat} {os : OsState}
variable {nm q : Str} {C N : Addr} {bs bm : List Value} {hdct : Bool} {sn : List Str} {sub : List Value} {ab : Bool} {col : Option Bool} {dd : Option Addr} {k0 k1 k2 k3 k5 : Option Value} {B newId initId : String} {bmB : List Value}
abbrev excObj (C tp : Addr) : Obj := { cls := .ref C, data := .fields #[.ref tp, .none, .none, .none, .bool false, .none] }
theorem exc_new (F : ExcBaseFacts B newId initId bmB) (hB : bm.contains (.type B) = true) (hA : bm.contains (.type "AttributeError") = false) (hN : bm.contains (.type "NameError") = false) {rest : List Value}
    (hC : h.get? C = some (excClassObj nm q C N bs bm hdct sn sub ab col dd k0 k1 k2 k3 k5 newId))
    (hq : R (.ok (.ret (.ref (h.objs.size + 1)))) ⟨(h.push { cls := .type "tuple", data := .seq rest.toArray }).push (excObj C h.objs.size), g, d, t, os⟩) (hrest : rest.length ≤ sizeLine) :
    codeAny (model prog w) A (.builtin newId ⟨.ref C :: rest, []⟩) R ⟨h, g, d, t, os⟩ := by
  have hends := F.ends
  have hcB : (Value.ref C :: bm).contains (.type B) = true := by rw [List.contains_cons, hB, Bool.or_true]
  have hcA : (Value.ref C :: bm).contains (.type "AttributeError") = false := by rw [List.contains_cons, hA]; rfl
  have hcN : (Value.ref C :: bm).contains (.type "NameError") = false := by rw [List.contains_cons, hN]; rfl
  refine codeAny_builtinAt F.entry ?_
  unfold Builtin.«BaseException.__new__»
  refine _root_.PySem.wpAt_bind ?_
  show _root_.PySem.wpAt _ _ _ (stack >>= _) _ _ _
  refine _root_.PySem.wpAt_bind (_root_.PySem.wpAt_stack fun p below => _root_.PySem.wpAt_of_wpAny ?_)
  wp_walk
  refine _root_.PySem.wpAt_of_wpAny ?_
  rw [F.owner]
  repeat (first | with_reducible refine wpAny_madeHere_exc F.canon hC ?_ | with_reducible refine wpAny_loadPart_at hC ?_ | (with_reducible refine wpAny_isSubtype_exc hC ?_; first | rw [hcB] | rw [hcA] | rw [hcN]) | wp_step)
  show R _ _
  rw [Heap.size_push]
  exact hq
theorem exc_check_new {M : Model} {E : Value → Shared → Prop} (F : ExcBaseFacts B newId initId bmB) (hB : bm.contains (.type B) = true) {rest : List Value} {Q : Unit → Shared → Prop}
    (hC : h.get? C = some (excClassObj nm q C N bs bm hdct sn sub ab col dd k0 k1 k2 k3 k5 newId))
    (hq : Q () ⟨h, g, d, t, os⟩) : wpAny M A (checkBuiltinCall newId ⟨.ref C :: rest, []⟩) Q E ⟨h, g, d, t, os⟩ := by
  have hcont : (Value.ref C :: bm).contains (.type B) = true := by rw [List.contains_cons, hB, Bool.or_true]
  have hstar := F.noStar
  simp only [checkBuiltinCall, F.newKind, F.newSplit, F.newRow]
  repeat (first | refine wpAny_loadPart_at hC ?_ | (refine wpAny_isSubtype_exc hC ?_; rw [hcont]) | refine wpAny_staticBase_exc hC ?_ | refine wpAny_madeBy_exc hC ?_ | simp only [bne_self_eq_false, Bool.false_eq_true, if_false] | wp_step)
  exact hq
theorem exc_make {fI : Addr} {rest : List Value} (F : ExcBaseFacts B newId initId bmB) (hB : bm.contains (.type B) = true) (hA : bm.contains (.type "AttributeError") = false) (hN : bm.contains (.type "NameError") = false)
    (hC : h.get? C = some (excClassObj nm q C N bs bm hdct sn sub ab col dd k0 k1 k2 k3 k5 newId)) (hi : Looks (model prog w) h (typeLookup (.ref C) "__init__") (some (.ref fI))) (hb : ∀ self, Looks (model prog w) h (bindSpecial (.ref fI) self) (.ref fI, [self]))
    (hq : codeAny (model prog w) (A.under (.builtin "type.__call__" ⟨.ref C :: rest, []⟩)) (.call (.ref fI) ⟨.ref (h.objs.size + 1) :: rest, []⟩) (InitBack (h.objs.size + 1) R) ⟨(h.push { cls := .type "tuple", data := .seq rest.toArray }).push (excObj C h.objs.size), g, d, t, os⟩)
    (hrest : rest.length ≤ sizeLine) :
    codeAny (model prog w) A (.call (.ref C) ⟨rest, []⟩) R ⟨h, g, d, t, os⟩ := by
  have f1 := tc_lookup
  have f2 := tc_bind (.ref C)
  have hT : (⟨h, g, d, t, os⟩ : Shared).TypeIs (.ref C) "type" := ⟨_, hC, rfl⟩
  refine codeAny_of_tree ?_
  show wpAny _ _ (callAny (.ref C) _) _ _ _
  repeat (any_goals (first | assumption | with_reducible refine wpAny_loadPart_at hC ?_ | wp_step))
  refine ⟨rfl, ?_⟩
  refine codeAny_call_builtin_at (Code.quiet_builtin _ (by decide +kernel)) entry_typeCall (wpAny_check_type_call_sub hC ?_)
  repeat (first | with_reducible refine wpAny_loadPart_at hC ?_ | with_reducible refine wpAny_madeBy_exc hC ?_ | wp_step)
  refine codeAny_call_builtin_code (Code.quiet_builtin _ F.quiet) (exc_check_new F hB hC ?_)
  refine exc_new F hB hA hN hC ?_ hrest
  show wpAny _ _ _ _ _ _
  have k : ∀ b o, h.get? b = some o → ((h.push { cls := .type "tuple", data := .seq rest.toArray }).push (excObj C h.objs.size)).get? b = some o := fun b o e => Heap.get?_push_of_some _ (Heap.get?_push_of_some _ e)
  have hC₁ := k _ _ hC
  have hget : ((h.push { cls := .type "tuple", data := .seq rest.toArray }).push (excObj C h.objs.size)).get? (h.objs.size + 1) = some (excObj C h.objs.size) := by heap_get
  have hcC : (Value.ref C :: bm).contains (.ref C) = true := by simp
  have t1 : Looks (model prog w) ((h.push { cls := .type "tuple", data := .seq rest.toArray }).push (excObj C h.objs.size)) (typeOf (.ref (h.objs.size + 1))) (.ref C) := (Looks.ld hget).andThen .now
  have i1 := hi.keeps k
  have b1 := (hb (.ref (h.objs.size + 1))).keeps k
  have s1 : Looks (model prog w) ((h.push { cls := .type "tuple", data := .seq rest.toArray }).push (excObj C h.objs.size)) (isSubtype (.ref C) (.ref C)) true := fun A Q E s e hq => by
    obtain ⟨h', g', d', tk', os'⟩ := s
    refine wpAny_isSubtype_exc (e _ _ hC₁) ?_
    rw [hcC]
    exact hq
  clear hC hC₁ hget hT f1 f2 hi hb
  unfold isInstance callSpecial? specialOf
  refine wpAny_bind (wpAny_bind (t1.here (s1.here ?_)))
  simp only [Bool.not_true, Bool.false_eq_true, if_false]
  refine wpAny_bind (wpAny_holding ?_)
  refine wpAny_bind (wpAny_bind (t1.here (i1.here ?_)))
  refine wpAny_holding (wpAny_bind (b1.here ?_))
  refine wpAny_bind ?_
  refine wpAny_call ?_
  refine codeAny_mono hq fun r s' z => ?_
  rcases r with e | (v | _ | _ | _) <;> first | exact z | exact z.elim | skip
  obtain ⟨rfl, z⟩ := z
  exact wpAny_pure (wpAny_pure z)
end
end
section
theorem refuse_exc (self : Value) : refuseLoop self "__setattr__" [.ref 90, .ref 47, .type "Exception", .type "BaseException", .type "object"] = pure () := by
  rw [refuseLoop_ref, refuseLoop_ref]
  kernel_rfl
section
open PySem.Builtin PySem.Builtin.ObjectAttr
variable {prog : Program} {w : World} {A : Around} {K : Frag} {C x : Addr} {s : Shared} {h₀ : Heap} {L : Addr} {m : Str → Option Value} {news : List (Addr × Obj)} {R : Result → Shared → Prop} {E : Value → Shared → Prop}
theorem osaX {ox : Obj} {od : Option Obj} {name : Str} {tk : Tok} {v : Value} {cd : ClassData} (X : K.In s.heap) (I : InstAt s.heap x ox C od) (hc : clsIn K C = some cd) (hrl : refuseLoop (.ref x) "__setattr__" cd.mro = pure ()) (hob : mroIn K C (.type "object") = some true) (ht : takerIn K C name = some none)
    (h : ∀ b, wpAny (model prog w) A.in1 (storeInOwnDict (.ref x) (.ref C) (.str name tk) name v b)
      (fun fin s' => match fin with | .done f => R (.ok f) s' | .again c' => c'.quiet = true ∧ codeAny (model prog w) A c' R s') (fun e s' => R (.error e) s') s) :
    codeAny (model prog w) A (.call (.builtin "object.__setattr__") ⟨[.ref x, .str name tk, v], []⟩) R s := by
  have SF := PySem.F.store_object
  have sub : Looks (model prog w) s.heap (isInstance (.ref x) (.type "object")) true := I.type.andThen (looks_mroIn X hob)
  refine codeAny_call_builtin SF.slot.plain SF.entry (@check_slot (model prog w) _ _ s "object.__setattr__" "object" "__setattr__" (.ref x) [.str name tk, v] [] _ SF.kind SF.split sub (SF.args (.ref x) (.str name tk) v) ?_)
  obtain ⟨attr, ha, hr⟩ := Option.bind_eq_some_iff.mp ht
  have hm : Looks (model prog w) s.heap (mroOf (.ref C)) cd.mro := (looks_clsIn X hc).andThen .now
  have L3 : Looks (model prog w) s.heap (storeTaker? attr) none := by
    cases attr with
    | none => cases hr; exact .now
    | some a =>
      obtain ⟨b, hb, e⟩ := Option.map_eq_some_iff.mp hr
      refine (looks_takesIn X hb).andThen ?_
      cases b
      · exact .now
      · cases e
  rw [osa_eq, refuse_eq]
  refine wpAny_bind (wpAny_bind (I.type.here (wpAny_bind (hm.here ?_))))
  rw [hrl]
  refine wpAny_pure (wpAny_bind (I.type.here (wpAny_bind ((looks_findIn X ha).here (wpAny_bind (L3.here ?_))))))
  exact h _
theorem osa_dictX {ox : Obj} {dx : Addr} {name : Str} {tk : Tok} {v : Value} {pre post : List (Addr × Obj)} {es es' : List DictEntry} {n n' : Nat} {cd : ClassData} (F : Fr h₀ L s.heap m) (N : News h₀ L s.heap (pre ++ (dx, dictOf es n) :: post)) (X : K.In s.heap)
    (I : InstAt s.heap x ox C (some (dictOf es n))) (hd : ox.dict = some dx) (hc : clsIn K C = some cd) (hrl : refuseLoop (.ref x) "__setattr__" cd.mro = pure ()) (hob : mroIn K C (.type "object") = some true) (ht : takerIn K C name = some none) (hh : cd.hasDict = true)
    (hl : (getL name es).isSome = true) (h1 : ∀ p ∈ pre, p.1 ≠ dx) (h2 : ∀ p ∈ post, p.1 ≠ dx)
    (e : (putL name (PyData.keyHash w.params name) (.str name s.toks) v es, putN name es n) = (es', n')) (hz : es'.length ≤ 1000)
    (h : ∀ h', Fr h₀ L h' m → News h₀ L h' (pre ++ (dx, dictOf es' n') :: post) → R (.ok (.ret .none)) { s with heap := h', toks := s.toks + 1 }) :
    codeAny (model prog w) A (.call (.builtin "object.__setattr__") ⟨[.ref x, .str name tk, v], []⟩) R s := by
  refine osaX X I hc hrl hob ht fun b => ?_
  obtain ⟨e1, e2⟩ := Prod.mk.inj e
  have e' : Obj.putName name (PyData.keyHash w.params name) (.str name s.toks) v (dictOf es n) = dictOf es' n' := by rw [putName_dict, e1, e2]
  obtain ⟨U1, U2⟩ := news_upd (f := Obj.putName name (PyData.keyHash w.params name) (.str name s.toks) v) F N h1 h2 e' rfl
  have D := (N (dx, dictOf es n) (by simp)).1
  have D' := (U2 (dx, dictOf es' n') (by simp)).1
  obtain ⟨hx, hcl, hn, -⟩ := I
  obtain ⟨oc, odi, oda, osl⟩ := ox
  dsimp only at hcl hd
  subst hcl hd
  refine wpAny_bind (wpAny_pure (wpAny_bind (wpAny_bind (wpAny_loadPart hx (wpAny_bind ((looks_clsIn X hc).here ?_))))))
  rw [hh]
  refine wpAny_pure (a := some dx) (wpAny_bind (wpAny_pure (wpAny_bind ?_)))
  unfold nsSet
  refine wpAny_bind (wpAny_bind (wpAny_askSetting (wpAny_pure (wpAny_bind (wpAny_mkText (wpAny_bind (wpAny_loadPart D ?_)))))))
  dsimp only
  have c : (!es.toArray.any (·.key.isStr name) && es.toArray.any (·.refKey)) = false := by
    rw [← Array.any_toList, ← Array.any_toList]
    unfold getL at hl
    split at hl
    · rename_i en he
      rw [List.any_eq_true.mpr ⟨en, List.mem_of_find?_eq_some he, List.find?_some he⟩]; rfl
    · split at hl
      · cases hl
      · rename_i z; rw [Bool.not_eq_true] at z; rw [z, Bool.and_false]
  rw [aRefKeyMayBeTheName_at, c]
  refine wpAny_updatePart D ?_
  refine wpAny_bind (wpAny_lookBehind D' (by exact pastItsLine_dict (by rw [List.size_toArray, sizeLine_eq]; omega)) ?_)
  exact wpAny_pure (h _ U1 U2)
theorem osa_newX {tp : Addr} {name : Str} {tk : Tok} {v : Value} {pre post : List (Addr × Obj)} {es' : List DictEntry} {n' : Nat} {cd : ClassData} (F : Fr h₀ L s.heap m) (N : News h₀ L s.heap (pre ++ (x, excObj C tp) :: post)) (X : K.In s.heap)
    (hc : clsIn K C = some cd) (hrl : refuseLoop (.ref x) "__setattr__" cd.mro = pure ()) (hob : mroIn K C (.type "object") = some true) (ht : takerIn K C name = some none) (hh : cd.hasDict = true)
    (h1 : ∀ p ∈ pre, p.1 ≠ x) (h2 : ∀ p ∈ post, p.1 ≠ x)
    (e : (putL name (PyData.keyHash w.params name) (.str name s.toks) v [], putN name [] 0) = (es', n')) (hz : es'.length ≤ 1000)
    (h : ∀ d h', Fr h₀ L h' m → News h₀ L h' ((d, dictOf es' n') :: (pre ++ (x, { excObj C tp with dict := some d }) :: post)) → (∀ p ∈ pre ++ (x, excObj C tp) :: post, p.1 < d) → R (.ok (.ret .none)) { s with heap := h', toks := s.toks + 1 }) :
    codeAny (model prog w) A (.call (.builtin "object.__setattr__") ⟨[.ref x, .str name tk, v], []⟩) R s := by
  have hx := (N (x, excObj C tp) (by simp)).1
  refine osaX X (ox := excObj C tp) (od := none) ⟨hx, rfl, rfl, trivial⟩ hc hrl hob ht fun b => ?_
  obtain ⟨e1, e2⟩ := Prod.mk.inj e
  refine wpAny_bind (wpAny_pure (wpAny_bind (wpAny_bind (wpAny_loadPart hx (wpAny_bind ((looks_clsIn X hc).here ?_))))))
  rw [hh]
  have lD : ∀ p ∈ pre ++ (x, excObj C tp) :: post, p.1 < s.heap.objs.size := fun p hp => Heap.lt_size (N p hp).1
  have F1 := F.push emptyDict
  have N1 := N.push F emptyDict
  obtain ⟨F2, N2⟩ := news_upd (f := fun o : Obj => { o with dict := some s.heap.objs.size }) (pre := (s.heap.objs.size, emptyDict) :: pre) F1 (by exact N1) (fun p hp => by
    rcases List.mem_cons.mp hp with rfl | hp
    · exact Nat.ne_of_gt (lD (x, excObj C tp) (by simp))
    · exact h1 p hp) h2 rfl rfl
  have e' : Obj.putName name (PyData.keyHash w.params name) (.str name s.toks) v (dictOf [] 0) = dictOf es' n' := by rw [putName_dict, e1, e2]
  obtain ⟨U1, U2⟩ := news_upd (f := Obj.putName name (PyData.keyHash w.params name) (.str name s.toks) v) (d := s.heap.objs.size) (o := dictOf [] 0) (pre := []) F2 (by exact N2) (fun _ z => nomatch z) (fun p hp => Nat.ne_of_lt (by
    rcases List.mem_append.mp hp with hp | hp
    · exact lD p (List.mem_append_left _ hp)
    rcases List.mem_cons.mp hp with rfl | hp
    · exact lD (x, excObj C tp) (by simp)
    · exact lD p (List.mem_append_right _ (.tail _ hp)))) e' rfl
  have D := (N2 (s.heap.objs.size, dictOf [] 0) (.head _)).1
  have D' := (U2 (s.heap.objs.size, dictOf es' n') (.head _)).1
  show wpAny _ _ (alloc emptyDict >>= fun d => update x (fun o => { o with dict := some d }) >>= fun _ => dictMade (.ref C) x d) _ _ _
  refine wpAny_bind (wpAny_alloc (wpAny_bind (wpAny_update (Heap.get?_push_of_some _ hx) ?_)))
  refine wpAny_pure (a := some s.heap.objs.size) ?_
  refine wpAny_bind (wpAny_pure (wpAny_bind ?_))
  unfold nsSet
  refine wpAny_bind (wpAny_bind (wpAny_askSetting (wpAny_pure (wpAny_bind (wpAny_mkText (wpAny_bind (wpAny_loadPart D ?_)))))))
  dsimp only
  have c : (!([] : List DictEntry).toArray.any (·.key.isStr name) && ([] : List DictEntry).toArray.any (·.refKey)) = false := by simp
  rw [aRefKeyMayBeTheName_at, c]
  refine wpAny_updatePart D ?_
  refine wpAny_bind (wpAny_lookBehind D' (by exact pastItsLine_dict (by rw [List.size_toArray, sizeLine_eq]; omega)) ?_)
  exact wpAny_pure (h _ _ U1 U2 lD)
end
end
section
section
open PySem.Builtin PySem.Builtin.ObjectAttr
variable {prog : Program} {w : World} {A : Around} {K : Frag} {C x : Addr} {s : Shared} {E : Value → Shared → Prop}
theorem get_exc {ox : Obj} {dx : Addr} {od : Obj} {name : Str} {expr : Bool} {v : Value} {Q : Value → Shared → Prop} (X : K.In s.heap) (I : InstAt s.heap x ox C (some od)) (hdx : ox.dict = some dx) (hga : findIn K (.ref C) "__getattribute__" = some (some (.builtin "BaseException.__getattribute__")))
    (hk : findIn K (.ref C) "__getattr__" = some none) (hn : findIn K (.ref C) name = some none) (hB : mroIn K C (.type "BaseException") = some true) (hl : lookIn name od = some (some v)) (hh : hasDictIn K C = true) (hv : handedIn v = true)
    (h : Q v { s with toks := s.toks + 1 }) : wpAny (model prog w) A (getAttr (.ref x) name expr) Q E s := by
  obtain ⟨hp, g, d, t, os⟩ := s
  have FB := PySem.F.attr_Exception
  have L0 := I.type (M := model prog w)
  have L1 := looks_findIn (M := model prog w) X hga
  have L2 := looks_findIn (M := model prog w) X hk
  have L3 := looks_find (M := model prog w) X I (findObj_own (v := v) hh hn rfl hl)
  have sub : Looks (model prog w) hp (isInstance (.ref x) (.type "BaseException")) true := I.type.andThen (looks_mroIn X hB)
  have hkd : builtinKind "BaseException.__getattribute__" = some .slot := by decide +kernel
  have hsplit : splitId "BaseException.__getattribute__" = some ("BaseException", "__getattribute__") := by decide +kernel
  have e0 : (onTheHeap (.ref C) && (Value.builtin "BaseException.__getattribute__" == Value.builtin "object.__getattribute__")) = false := by rw [show (Value.builtin "BaseException.__getattribute__" == Value.builtin "object.__getattribute__") = false from by decide +kernel, Bool.and_false]
  have e1 : (expr && onTheHeap (Value.builtin "BaseException.__getattribute__")) = false := by cases expr <;> rfl
  unfold getAttr getAttrBy
  refine wpAny_bind (wpAny_mkText (wpAny_holding (wpAny_bind (L0.at (wpAny_bind (L1.at ?_))))))
  dsimp only
  rw [e0]
  simp only [Bool.false_eq_true, if_false]
  unfold getAttrByItsOwn hookBefore
  refine wpAny_bind (L2.at (wpAny_bind (wpAny_attempt (wpAny_holding ?_))))
  unfold callGetattribute
  rw [e1]
  simp only [Bool.false_eq_true, if_false]
  unfold boundAndCalled
  rw [FB.ga.bind]
  refine wpAny_bind (wpAny_pure ?_)
  show wpAny _ _ (call (.builtin "BaseException.__getattribute__") [.ref x, .str name t]) _ _ _
  refine wpAny_call ?_
  refine codeAny_call_builtin FB.ga.plain F.entry_bexc_ga (@check_slot (model prog w) _ _ ⟨hp, g, d, t + 1, os⟩ "BaseException.__getattribute__" "BaseException" "__getattribute__" (.ref x) [.str name t] [] _ hkd hsplit sub (F.args_bexc_ga (.ref x) (.str name t)) ?_)
  refine wpAny_bind (wpAny_pure (wpAny_bind (wpAny_pure (wpAny_bind (L0.at (wpAny_bind (L3.at ?_)))))))
  refine wpAny_pure ?_
  show wpAny _ _ (handedOut v) _ _ _
  rw [handedOut_of hv]
  exact wpAny_pure h
end
end
section
theorem wd_slot : Slot "wrapper_descriptor" "__get__" "wrapper_descriptor.__get__" :=
  .of (owner := "wrapper_descriptor") (n := "__get__") (by rw [typeLookup_type, builtinLookup_eq_fast]; kernel_rfl) (by decide +kernel) (by decide +kernel) (by decide +kernel)
    (by first | exact .inl (by decide +kernel) | exact .inr (by decide +kernel)) (by rw [isSubtype_type]; kernel_rfl)
theorem wd_entry : entryFor table "wrapper_descriptor.__get__" = some Builtin.«wrapper_descriptor.__get__» := entryFor_of_tree (by kernel_rfl)
theorem wd_args (a b c : Value) : argsOk "wrapper_descriptor.__get__" ⟨[a, b, c], []⟩ := by unfold argsOk; kernel_rfl
theorem wd_type : typeOf (.builtin "Exception.__init__") = pure (.type "wrapper_descriptor") := by show builtinType _ = _; rw [builtinType_eq_fast]; kernel_rfl
abbrev mwObj (x : Addr) : Obj := { cls := .type "method-wrapper", data := .fields #[.builtin "Exception.__init__", .ref x] }
section
variable {prog : Program} {w : World} {A : Around} {E : Value → Shared → Prop} {s : Shared}
theorem wd_run {x C : Addr} {P : Fin → Shared → Prop} (hi : Looks (model prog w) s.heap (isInstance (.ref x) (.type "Exception")) true) (h : P (.done (.ret (.ref s.heap.objs.size))) { s with heap := s.heap.push (mwObj x) }) :
    wpAny (model prog w) A (Builtin.«wrapper_descriptor.__get__» ⟨[.builtin "Exception.__init__", .ref x, .ref C], []⟩) P E s := by
  unfold Builtin.«wrapper_descriptor.__get__»
  refine wpAny_bind (wpAny_of_eq (a := (.builtin "Exception.__init__", some (.ref x), some (.ref C))) (by first | rfl | kernel_rfl) ?_)
  dsimp only
  refine wpAny_bind ?_
  refine wpAny_bind (wpAny_of_eq (a := (("__init__" : Str), Value.type "Exception")) (by first | kernel_rfl | rfl) ?_)
  dsimp only
  refine wpAny_bind (hi.here ?_)
  simp only [Bool.not_true, Bool.false_eq_true, if_false]
  refine wpAny_pure ?_
  exact wpAny_bind (wpAny_newObj_type (wpAny_pure h))
end
section
open PySem.Builtin
variable {prog : Program} {w : World} {A : Around} {E : Value → Shared → Prop} {h : Heap} {g : Array GenState} {d : Drawn} {t : Nat} {os : OsState}
theorem super_ga_exc {so D x C : Addr} {l₀ l : List Value} {K : Frag} {tk : Tok} {Q : Fin → Shared → Prop}
    (hso : h.get? so = some { cls := .type "super", dict := none, data := .fields #[.ref D, .ref x, .ref C], slots := #[] }) (hno : Looks (model prog w) h (opaqueClassAbove (.ref C)) none)
    (hC : Looks (model prog w) h (mroOf (.ref C)) l₀) (hl : (l₀.dropWhile (· != .ref D)).drop 1 = l) (X : K.In h)
    (hf : alongIn K "__init__" l = some (some (.builtin "Exception.__init__"))) (hxC : x ≠ C) (hi : Looks (model prog w) h (isInstance (.ref x) (.type "Exception")) true)
    (hq : Q (.done (.ret (.ref h.objs.size))) ⟨h.push (mwObj x), g, d, t, os⟩) :
    wpAny (model prog w) A (Builtin.«super.__getattribute__» ⟨[.ref so, .str "__init__" tk], []⟩) Q E ⟨h, g, d, t, os⟩ := by
  have hlk := wd_slot.lookup
  have hne : (Value.ref x == Value.ref C) = false := by simp [hxC]
  have hn : (("__init__" : Str) == ("__class__" : Str)) = false := by decide
  have hTf : (⟨h, g, d, t, os⟩ : Shared).TypeIs (.builtin "Exception.__init__") "wrapper_descriptor" := wd_type
  have hdt : ({ cls := .type "super", dict := none, data := .fields #[.ref D, .ref x, .ref C], slots := #[] } : Obj).data = .fields #[.ref D, .ref x, .ref C] := rfl
  have f0 : (#[.ref D, .ref x, .ref C] : Array Value)[0]? = some (.ref D) := rfl
  have f1 : (#[.ref D, .ref x, .ref C] : Array Value)[1]? = some (.ref x) := rfl
  have f2 : (#[.ref D, .ref x, .ref C] : Array Value)[2]? = some (.ref C) := rfl
  unfold Builtin.«super.__getattribute__»
  repeat (first
    | (with_reducible refine wpAny_field hso hdt f0 ?_) | (with_reducible refine wpAny_field hso hdt f1 ?_) | (with_reducible refine wpAny_field hso hdt f2 ?_)
    | (with_reducible refine ks_wpAny_notOpaque hno ?_)
    | (with_reducible refine Looks.at hC ?_; rw [hl])
    | (refine ks_forIn_along X (fun _ _ => rfl) rfl ?_ hf)
    | (with_reducible refine wpAny_typeOf hTf ?_)
    | (with_reducible refine wpAny_call_entry wd_slot hTf wd_entry ?_ (wd_args _ _ _))
    | (with_reducible refine wd_run (s := ⟨h, g, d, t, os⟩) hi ?_)
    | (with_reducible refine ⟨_, rfl, ?_⟩)
    | (simp only [hn, hne, Bool.or_false, Bool.false_eq_true, if_false])
    | wp_step
    | dsimp only)
  all_goals exact hq
end
end
section
section
open PySem.Builtin
variable {prog : Program} {w : World} {A : Around} {E : Value → Shared → Prop} {h : Heap} {g : Array GenState} {d : Drawn} {t : Nat} {os : OsState}
theorem super_method_exc {so D x C : Addr} {l₀ l : List Value} {K : Frag} {pl : Sem Bool} {Q : Value × List Value → Shared → Prop}
    (hso : h.get? so = some { cls := .type "super", dict := none, data := .fields #[.ref D, .ref x, .ref C], slots := #[] }) (hno : Looks (model prog w) h (opaqueClassAbove (.ref C)) none)
    (hC : Looks (model prog w) h (mroOf (.ref C)) l₀) (hl : (l₀.dropWhile (· != .ref D)).drop 1 = l) (X : K.In h)
    (hf : alongIn K "__init__" l = some (some (.builtin "Exception.__init__"))) (hxC : x ≠ C) (hi : Looks (model prog w) h (isInstance (.ref x) (.type "Exception")) true)
    (hq : Q (.ref h.objs.size, []) ⟨h.push (mwObj x), g, d, t + 1, os⟩) :
    wpAny (model prog w) A (getMethod (.ref so) "__init__" pl) Q E ⟨h, g, d, t, os⟩ := by
  have hlk := F.ks_slot_super_ga.lookup
  have hcan := F.ks_canon_super_ga
  have hT : ∀ t', (⟨h, g, d, t', os⟩ : Shared).TypeIs (.ref so) "super" := fun _ => ⟨_, hso, rfl⟩
  unfold getMethod
  refine wpAny_bind (wpAny_specialOf (hT _) hlk ?_)
  show wpAny _ _ (if (Manifest.canonical "super.__getattribute__" != "object.__getattribute__") = true then _ else _) _ _ _
  rw [if_pos hcan]
  unfold getAttr getAttrBy
  refine wpAny_bind (wpAny_bind (wpAny_mkText (wpAny_holding (wpAny_bind (wpAny_typeOf (hT _) (wpAny_bind (wpAny_of_eq hlk ?_)))))))
  show wpAny _ _ (getAttrByItsOwn (.ref so) (.str "__init__" t) (.type "super") (.builtin "super.__getattribute__") true false) _ _ _
  unfold getAttrByItsOwn hookBefore callGetattribute boundAndCalled
  refine wpAny_bind (wpAny_of_eq (show (if onTheHeap (.type "super") then typeLookup (.type "super") "__getattr__" else pure none) = pure none from rfl) ?_)
  refine wpAny_bind (wpAny_attempt (wpAny_holding ?_))
  show wpAny _ _ (bindSpecial (.builtin "super.__getattribute__") (.ref so) >>= _) _ _ _
  refine wpAny_bind (wpAny_of_eq (F.ks_slot_super_ga.bind _) ?_)
  refine wpAny_mono (Q := fun v s' => v = .ref h.objs.size ∧ s' = ⟨h.push (mwObj x), g, d, t + 1, os⟩) (E := fun _ _ => False)
    (wpAny_call_entry F.ks_slot_super_ga (hT _) F.ks_entry_super_ga (super_ga_exc hso hno hC hl X hf hxC hi ⟨_, rfl, rfl, rfl⟩) (F.ks_gaArgs_super _ _)) (fun v s' hv => ?_) fun _ _ z => z.elim
  obtain ⟨rfl, rfl⟩ := hv
  exact wpAny_pure (wpAny_pure hq)
end
section
variable {prog : Program} {w : World} {M : Model} {A : Around} {E : Value → Shared → Prop} {s : Shared}
theorem callWith_mw {x : Addr} {pos : Pos} {u : Addr} {env : Env} {e : PySem.Expr} {rest : List PySem.Expr} {Q : Value → Shared → Prop}
    (h : wpAny M A (spliced (backTo pos (starEach (e :: rest) env))) (fun vs s₁ => s₁.heap.get? u = some (mwObj x) ∧ wpAny M A (call (.ref u) vs) Q E s₁) E s)
    (he : starEach (e :: rest) env = (false, eval e env) :: starEach rest env := by rfl) (hplain : (backTo pos (starEach rest env)).any (·.1) = false := by rfl) :
    wpAny M A (callWith pos (.ref u) [] (backTo pos (starEach (e :: rest) env)) []) Q E s := by
  rw [he] at h ⊢
  refine callWith_of (P := fun h => h.get? u = some (mwObj x)) (by show ((false || (backTo pos (starEach rest env)).any (·.1)) || false) = false; rw [hplain]; rfl) (fun h ho => ⟨.machine, .inr (.inl rfl), ?_⟩) (evalArgs_plain h)
  exact (Looks.ld (part := none) ho).andThen .now
theorem mw_check {x C : Addr} {v : Value} {ox : Obj} {oc : Value} {od : Option Addr} {osl : Array (Option Value)} {cd : ClassData} {Q : Unit → Shared → Prop} (hx : s.heap.get? x = some ox) (hc : ox.cls = .ref C) (hC : s.heap.get? C = some ⟨oc, od, .cls cd, osl⟩) (hq : Q () s) : wpAny M A (checkBoundCall "Exception.__init__" ⟨[.ref x, v], []⟩) Q E s := by
  have F := PySem.F.excBase_Exception
  have hshort := F.noStar
  obtain ⟨h, g, d, t, os⟩ := s
  simp only [checkBoundCall, F.initKind, F.initRow]
  repeat (first | (with_reducible refine wpAny_loadPart_at hx ?_; try rw [hc]) | (with_reducible refine wpAny_loadPart_at hC ?_) | wp_step)
  exact hq
theorem mw_quiet {as : Args} : (Code.builtin "Exception.__init__" as).quiet = true := Code.quiet_builtin _ (by decide +kernel)
theorem mw_call {x u C : Addr} {dd : Addr} {a0 : Addr} {v : Value} {R : Result → Shared → Prop} {w : World} {prog : Program} {oc : Value} {od : Option Addr} {osl : Array (Option Value)} {cd : ClassData} (ho : s.heap.get? u = some (mwObj x)) (hC : s.heap.get? C = some ⟨oc, od, .cls cd, osl⟩) (hx : s.heap.get? x = some { cls := .ref C, dict := some dd, data := .fields #[.ref a0, .none, .none, .none, .bool false, .none] })
    (hq : ∀ tp h', Mod [x] s.heap h' → s.heap.get? tp = none → h'.get? tp = some (tupO [v]) → h'.get? x = some { cls := .ref C, dict := some dd, data := .fields #[.ref tp, .none, .none, .none, .bool false, .none] } → R (.ok (.ret .none)) { s with heap := h' }) :
    codeAny (model prog w) A (.call (.ref u) ⟨[v], []⟩) R s := by
  refine codeAny_of_tree ?_
  show wpAny _ A.in1 (callAny (.ref u) ⟨[v], []⟩) _ _ s
  simp only [callAny]
  refine wpAny_bind (wpAny_load ho ?_)
  simp only [mwObj, show (Value.type "method-wrapper" == Value.type "method" || Value.type "method-wrapper" == Value.type "builtin_function_or_method" || Value.type "method-wrapper" == Value.type "method-wrapper") = true by decide, if_true]
  refine KFB.if_so (by decide) ?_
  refine wpAny_bind (mw_check hx rfl hC ?_)
  refine wpAny_bind (wpAny_pure (wpAny_pure ?_))
  refine ⟨mw_quiet, codeAny_builtin PySem.F.excBase_Exception.initEntry ?_⟩
  obtain ⟨h, g, d, t, os⟩ := s
  unfold Builtin.«BaseException.__init__»
  wp_walk
  have nn : h.get? h.objs.size = none := Heap.get?_none_of_le (Nat.le_refl _)
  have xl : x < h.objs.size := Heap.lt_size hx
  refine hq h.objs.size _ (fun a o ha q => ?_) nn ?_ ?_
  · rw [Heap.get?_update_ne _ _ _ _ (by simpa using ha)]
    exact Heap.get?_push_of_some _ q
  · rw [Heap.get?_update_ne _ _ _ _ (Nat.ne_of_gt xl)]
    exact Heap.get?_push_size _ rfl
  · rw [Heap.get?_update_self _ (Heap.get?_push_of_some _ hx) rfl]
    rfl
end
section
variable {prog : Program} {w : World} {A : Around} {E : Value → Shared → Prop} {s : Shared} {K : Frag} {h₀ : Heap} {L x C D so : Addr} {ox : Obj} {odx : Option Obj} {m : Str → Option Value} {news : List (Addr × Obj)}
theorem super_method_excK {pl : Sem Bool} {Q : Value × List Value → Shared → Prop} (F : Fr h₀ L s.heap m) (X₀ : K.In h₀) (N : News h₀ L s.heap news) (hso : (so, ks_superObj D x C) ∈ news) (I : InstAt s.heap x ox C odx) (ho : nsIn K cStatics "thirdparty.any" = some none)
    (hm : ks_superIn K C D "__init__" = some (some (.builtin "Exception.__init__"))) (hB : mroIn K C (.type "Exception") = some true)
    (h : ∀ q h', Fr h₀ L h' m → News h₀ L h' ((q, mwObj x) :: news) → (∀ p ∈ news, p.1 < q) → Q (.ref q, []) { s with heap := h', toks := s.toks + 1 }) : wpAny (model prog w) A (getMethod (.ref so) "__init__" pl) Q E s := by
  have X : K.In s.heap := X₀.keeps F.keep
  have hi : Looks (model prog w) s.heap (isInstance (.ref x) (.type "Exception")) true := I.type.andThen (looks_mroIn X hB)
  obtain ⟨hh, g, d, t, os⟩ := s
  cases hc : clsIn K C with
  | none => unfold ks_superIn at hm; rw [hc] at hm; cases hm
  | some cd =>
    unfold ks_superIn at hm
    rw [hc] at hm
    refine super_method_exc (N _ hso).1 (looks_opaque X ho) (l₀ := cd.mro) ?_ rfl X hm (ks_ne X I hc) hi ?_
    · exact fun A Q E s k q => wpAny_bind ((looks_clsIn X hc) A _ E s k (wpAny_pure q))
    · obtain ⟨F', N', l'⟩ := ks_newsPush (s := ⟨hh, g, d, t, os⟩) (o := mwObj x) F N rfl (Heap.get?_push_at rfl rfl) (fun b o e => Heap.get?_push_of_some _ e)
      exact h _ _ F' N' l'
end
end
section
abbrev excD (C dd tp : Addr) : Obj := { cls := .ref C, dict := some dd, data := .fields #[.ref tp, .none, .none, .none, .bool false, .none] }
theorem cls_of {K : Frag} {C : Addr} {oc : Value} {od : Option Addr} {cd : ClassData} {osl : Array (Option Value)} {l : List Value} (ho : K.lookup C = some ⟨oc, od, .cls cd, osl⟩) (h : cd.mro = l) (h2 : cd.hasDict = true) : ∃ cd, clsIn K C = some cd ∧ cd.mro = l ∧ cd.hasDict = true :=
  ⟨cd, by unfold clsIn; rw [ho], h, h2⟩
theorem cls90 (w : World) : ∃ cd, clsIn (hd1.heap_39 w.params) 90 = some cd ∧ cd.mro = [.ref 90, .ref 47, .type "Exception", .type "BaseException", .type "object"] ∧ cd.hasDict = true := by
  refine' cls_of ?h1 ?h2 ?h3
  case h1 => k_is
  case h2 => rfl
  case h3 => rfl
theorem look_of {K : Frag} {C : Addr} {oc : Value} {od : Option Addr} {cd : ClassData} {osl : Array (Option Value)} (ho : K.lookup C = some ⟨oc, od, .cls cd, osl⟩) : ∃ oc od cd osl, K.lookup C = some ⟨oc, od, .cls cd, osl⟩ := ⟨_, _, _, _, ho⟩
theorem look90 (w : World) : ∃ oc od cd osl, (hd1.heap_39 w.params).lookup 90 = some ⟨oc, od, .cls cd, osl⟩ := by
  refine' look_of ?h1
  case h1 => k_is
theorem init37 {w : World} {A : Around} {R : Result → Shared → Prop} {s : Shared} {h₀ : Heap} {e dd t0 : Addr} {hh : Int} {kt : Tok} {v0 : Value} {mt : Str} {mk : Tok}
    (O : On w h₀ s.heap) (hr : Room A 5) (he : At h₀ s.heap e (excD 90 dd t0)) (hd : At h₀ s.heap dd (dictOf [⟨hh, .str "message" kt, v0⟩] 1))
    (ret : ∀ tp h' tk', Mod [e, dd] s.heap h' → s.heap.get? tp = none → h'.get? tp = some (tupO [.str mt mk]) → h'.get? e = some (excD 90 dd tp) → h'.get? dd = some (dictOf [⟨hh, .str "message" kt, .str mt mk⟩] 1) → R (.ok (.ret .none)) { s with heap := h', toks := tk' }) :
    codeAny (model PySem.Challenge.rw_sv0019_01.row.prog w) A (.call (.ref 37) ⟨[.ref e, .str mt mk], []⟩) R s := by
  obtain ⟨hd0, dp0, fr0, gd0, un0⟩ := A
  obtain rfl : hd0 = none := hr.hd
  have n2 := neN (fun q : e = dd => At.clash he (q ▸ hd))
  have XS : (hd1.heap_39 w.params).In s.heap := O.wd.1.keeps O.stays
  have Al : AllAt h₀ s.heap [(e, excD 90 dd t0), (dd, dictOf [⟨hh, .str "message" kt, v0⟩] 1)] := List.forall_mem_cons.mpr ⟨he, List.forall_mem_cons.mpr ⟨hd, List.forall_mem_nil _⟩⟩
  refine' enterS _ O Al ?ho ?hcd ?hroom ?hbind ?hloc ?_ ?c1 ?c2 ?c3 ?c4
  case ho => k_is
  case hcd => k_is
  case hroom => exact hr.lt
  case hbind => first | exact BindsTo.of_eq rfl | exact binds_K (by assumption) rfl (by k_is) rfl rfl rfl
  case hloc => exact locs rfl
  case c1 => decide
  case c2 => exact rfl
  case c3 => exact rfl
  case c4 => exact rfl
  intro g L' h₁ p₁ loose mean mg mb hg0 hg2 F N X T lL
  (try dsimp only); (try k_fold)
  walk_at "bf steps"
  have I1 : InstAt h₁ e (excD 90 dd t0) 90 (some (dictOf [⟨hh, .str "message" kt, v0⟩] 1)) := ⟨(N _ (.head _)).1, rfl, rfl, (N _ (.tail _ (.head _))).1⟩
  obtain ⟨cd0, hcls, hmro, hhas⟩ := cls90 w
  refine set_plain (K := hd1.heap_39 w.params) (C := 90) (X.keeps F.keep) I1 ?s1 ?_
  case s1 => k_is
  refine osa_dictX (K := hd1.heap_39 w.params) (C := 90) (pre := [(e, excD 90 dd t0)]) (post := []) (es' := [⟨hh, .str "message" kt, .str mt mk⟩]) (n' := 1) F N (X.keeps F.keep) I1 rfl hcls (by rw [hmro]; exact refuse_exc _) ?s2 ?s3 hhas ?s5 ?s6 (fun _ z => nomatch z) ?s7 ?s8 ?_
  case s2 => k_is
  case s3 => k_is
  case s5 => rfl
  case s6 => intro p hp; rw [List.mem_singleton.mp hp]; exact n2
  case s7 => rfl
  case s8 => exact Nat.le_of_ble_eq_true rfl
  intro h2 F2 N2
  dsimp only [List.cons_append, List.nil_append] at *
  clear N
  refine ks_wpAt_execs_cons ?_
  refine ks_wpAt_Expr_any ?_
  refine ks_wpAt_MethodCall ?_
  have I2 : InstAt h2 e (excD 90 dd t0) 90 (some (dictOf [⟨hh, .str "message" kt, .str mt mk⟩] 1)) := ⟨(N2 _ (.head _)).1, rfl, rfl, (N2 _ (.tail _ (.head _))).1⟩
  refine ks_node F2 X N2 T (by k_is) (by rfl) (by rfl) I2 (by k_is) (by rfl) (by first | rfl | decide +kernel) (by k_is) (by k_is) (by k_is) (by k_is) (by decide) (by rfl) (by rfl) (by rfl) (by rfl) (by decide +kernel) (by first | boot_by_name | rfl | kernel_rfl) ?_
  intro so h3 F3 N3 l3
  have I3 : InstAt h3 e (excD 90 dd t0) 90 (some (dictOf [⟨hh, .str "message" kt, .str mt mk⟩] 1)) := ⟨(N3 _ (.tail _ (.head _))).1, rfl, rfl, (N3 _ (.tail _ (.tail _ (.head _)))).1⟩
  refine super_method_excK (K := hd1.heap_39 w.params) (C := 90) (D := 47) (x := e) F3 X N3 (.head _) I3 ?u1 ?u2 ?u3 ?_
  case u1 => k_is
  case u2 => ks_is
  case u3 => k_is
  intro mw h4 F4 N4 l4
  dsimp only
  refine callWith_mw (x := e) ?_
  walk_at "bf steps"
  have I4 : InstAt h4 e (excD 90 dd t0) 90 (some (dictOf [⟨hh, .str "message" kt, .str mt mk⟩] 1)) := ⟨(N4 _ (.tail _ (.tail _ (.head _)))).1, rfl, rfl, (N4 _ (.tail _ (.tail _ (.tail _ (.head _))))).1⟩
  have X4 := X.keeps F4.keep
  obtain ⟨oc, od, cd, osl, hlk⟩ := look90 w
  refine get_exc (K := hd1.heap_39 w.params) (C := 90) (v := .str mt mk) X4 I4 rfl ?g1 ?g2 ?g3 ?g4 rfl ?g5 rfl ?_
  case g1 => k_is
  case g2 => k_is
  case g3 => k_is
  case g4 => k_is
  case g5 => k_is
  (walk1; try dsimp only)
  refine ⟨(N4 _ (.head _)).1, ?_⟩
  refine wpAny_call (mw_call (x := e) (C := 90) (dd := dd) (a0 := t0) (N4 _ (.head _)).1 (X4 _ _ hlk) (N4 _ (.tail _ (.tail _ (.head _)))).1 ?_)
  intro tp h5 M5 ntp atp ae
  dsimp only at *
  have M4 : Mod [e, dd] s.heap h4 := mod_of [e, dd] hg2 F4 N4 Al (fun p hp hW => by
    rcases List.mem_cons.mp hp with rfl | hp
    · exact absurd (.head _) hW
    rcases List.mem_cons.mp hp with rfl | hp
    · exact absurd (.tail _ (.head _)) hW
    · cases hp)
  have k4 : ∀ a, h4.get? a = none → s.heap.get? a = none := fun a q => none_ofW M4 (fun b hb => by
    rcases List.mem_cons.mp hb with rfl | hb
    · exact ⟨_, (N4 _ (.tail _ (.tail _ (.head _)))).1⟩
    · rw [List.mem_singleton.mp hb]; exact ⟨_, (N4 _ (.tail _ (.tail _ (.tail _ (.head _))))).1⟩) q
  have add := M5 dd _ (by simpa using n2.symm) (N4 _ (.tail _ (.tail _ (.tail _ (.head _))))).1
  clear N4 N3 N2
  walk_at "bf steps"
  exact ret tp h5 _ (M4.trans (M5.mono (fun b z => by rw [List.mem_singleton.mp z]; exact .head _))) (k4 _ ntp) atp ae add
end
section
theorem init87 {w : World} {A : Around} {R : Result → Shared → Prop} {s : Shared} {h₀ : Heap} {e t0 : Addr} {mt : Str} {mk : Tok}
    (O : On w h₀ s.heap) (hr : Room A 10) (he : At h₀ s.heap e (excObj 90 t0))
    (ret : ∀ dd tp h' tk', Mod [e] s.heap h' → s.heap.get? tp = none → h'.get? tp = some (tupO [.str mt mk]) → h'.get? e = some (excD 90 dd tp) → R (.ok (.ret .none)) { s with heap := h', toks := tk' }) :
    codeAny (model PySem.Challenge.rw_sv0019_01.row.prog w) A (.call (.ref 87) ⟨[.ref e, .str mt mk], []⟩) R s := by
  obtain ⟨hd0, dp0, fr0, gd0, un0⟩ := A
  obtain rfl : hd0 = none := hr.hd
  have XS : (hd1.heap_39 w.params).In s.heap := O.wd.1.keeps O.stays
  have Al : AllAt h₀ s.heap [(e, excObj 90 t0)] := List.forall_mem_cons.mpr ⟨he, List.forall_mem_nil _⟩
  refine' enterS _ O Al ?ho ?hcd ?hroom ?hbind ?hloc ?_ ?c1 ?c2 ?c3 ?c4
  case ho => k_is
  case hcd => k_is
  case hroom => exact hr.lt
  case hbind => first | exact BindsTo.of_eq rfl | exact binds_K (by assumption) rfl (by k_is) rfl rfl rfl
  case hloc => exact locs rfl
  case c1 => decide
  case c2 => exact rfl
  case c3 => exact rfl
  case c4 => exact rfl
  intro g L' h₁ p₁ loose mean mg mb hg0 hg2 F N X T lL
  (try dsimp only); (try k_fold)
  walk_at "bf steps"
  have I1 : InstAt h₁ e (excObj 90 t0) 90 none := ⟨(N _ (.head _)).1, rfl, rfl, trivial⟩
  obtain ⟨cd0, hcls, hmro, hhas⟩ := cls90 w
  refine set_plain (K := hd1.heap_39 w.params) (C := 90) (X.keeps F.keep) I1 ?s1 ?_
  case s1 => k_is
  refine' osa_newX (K := hd1.heap_39 w.params) (C := 90) (pre := []) (post := []) (es' := [⟨PyData.keyHash w.params "message", .str "message" ?kt, .str mt mk⟩]) (n' := 1) F N (X.keeps F.keep) hcls (by rw [hmro]; exact refuse_exc _) ?s2 ?s3 hhas (fun _ z => nomatch z) (fun _ z => nomatch z) ?s7 ?s8 ?_
  case s7 => exact rfl
  case s2 => k_is
  case s3 => k_is
  case s8 => exact Nat.le_of_ble_eq_true rfl
  intro dd h2 F2 N2 l2
  dsimp only [List.cons_append, List.nil_append] at *
  have ed : e ≠ dd := Nat.ne_of_lt (l2 (e, excObj 90 t0) (.head _))
  refine ks_wpAt_execs_cons ?_
  refine ks_wpAt_Expr_any ?_
  refine ks_wpAt_MethodCall ?_
  have I2 := InstAt.mk (od := some _) (N2 _ (.tail _ (.head _))).1 rfl rfl (N2 _ (.head _)).1
  refine ks_node F2 X N2 T (by k_is) (by rfl) (by rfl) I2 (by k_is) (by rfl) (by first | rfl | decide +kernel) (by k_is) (by k_is) (by k_is) (by k_is) (by decide) (by rfl) (by rfl) (by rfl) (by rfl) (by decide +kernel) (by first | boot_by_name | rfl | kernel_rfl) ?_
  intro so h3 F3 N3 l3
  have I3 := InstAt.mk (od := some _) (N3 _ (.tail _ (.tail _ (.head _)))).1 rfl rfl (N3 _ (.tail _ (.head _))).1
  refine ks_method (K := hd1.heap_39 w.params) (C := 90) (D := 90) (x := e) (f2 := 37) F3 X N3 (.head _) I3 ?u1 ?u2 ?u3 (by decide) ?_
  case u1 => k_is
  case u2 => ks_is
  case u3 => k_is
  intro mw h4 F4 N4 l4
  dsimp only
  have I4 := InstAt.mk (od := some _) (N4 _ (.tail _ (.tail _ (.tail _ (.head _))))).1 rfl rfl (N4 _ (.tail _ (.tail _ (.head _)))).1
  have X4 := X.keeps F4.keep
  refine callWith_M (K := hd1.heap_39 w.params) (g := 37) (self := .ref e) X N4 (.head _) ?f1 ?_
  case f1 => k_is
  walk_at "bf steps"
  refine get_exc (K := hd1.heap_39 w.params) (C := 90) (v := .str mt mk) X4 I4 rfl ?g1 ?g2 ?g3 ?g4 rfl ?g5 rfl ?_
  case g1 => k_is
  case g2 => k_is
  case g3 => k_is
  case g4 => k_is
  case g5 => k_is
  (walk1; try dsimp only)
  refine ⟨methP N4 (.head _) X4, ?_⟩
  refine wpAny_call (method_call (N4 _ (.head _)).1 ?_)
  refine init37 (h₀ := h₀) (O.fr hg0 F4) (hr.down 4).deeper (At.ofNews hg0 N4 (.tail _ (.tail _ (.tail _ (.head _))))) (At.ofNews hg0 N4 (.tail _ (.tail _ (.head _)))) ?_
  intro tp h5 tk5 M5 ntp atp ae add
  dsimp only at *
  have M4 : Mod [e] s.heap h4 := mod_of [e] hg2 F4 N4 Al (fun p hp hW => by
    rcases List.mem_cons.mp hp with rfl | hp
    · exact absurd (.head _) hW
    · cases hp)
  have ndd : s.heap.get? dd = none := new_of (news₀ := [(e, excObj 90 t0)]) hg2 N4 (.tail _ (.tail _ (.head _))) (by simp [ed.symm])
  have k4 : ∀ a, h4.get? a = none → s.heap.get? a = none := fun a q => none_ofW M4 (fun b hb => by
    rw [List.mem_singleton.mp hb]; exact ⟨_, (N4 _ (.tail _ (.tail _ (.tail _ (.head _))))).1⟩) q
  clear N4 N3 N2
  walk_at "bf steps"
  refine ret dd tp h5 _ (fun b o hb q => M5 b o (fun z => ?_) (M4 b o hb q)) (k4 _ ntp) atp ae
  rcases List.mem_cons.mp z with rfl | z
  · exact hb (.head _)
  · rw [List.mem_singleton.mp z, ndd] at q; cases q
end
section
abbrev bm90 : List Value := [.ref 47, .type "Exception", .type "BaseException", .type "object"]
theorem exc_look_of {K : Frag} {nm q : Str} {C N : Addr} {bs bm : List Value} {hdct : Bool} {sn : List Str} {sub : List Value} {ab : Bool} {col : Option Bool} {dd : Option Addr} {k0 k1 k2 k3 k5 : Option Value} {newId : String}
    (ho : K.lookup C = some (excClassObj nm q C N bs bm hdct sn sub ab col dd k0 k1 k2 k3 k5 newId)) (hb : bm = bm90) (hn : newId = "Exception.__new__") :
    ∃ (nm q : Str) (N : Addr) (bs : List Value) (hdct : Bool) (sn : List Str) (sub : List Value) (ab : Bool) (col : Option Bool) (dd : Option Addr) (k0 k1 k2 k3 k5 : Option Value), K.lookup C = some (excClassObj nm q C N bs bm90 hdct sn sub ab col dd k0 k1 k2 k3 k5 "Exception.__new__") := by
  subst hb hn
  exact ⟨_, _, _, _, _, _, _, _, _, _, _, _, _, _, _, ho⟩
theorem exc90 (w : World) : ∃ (nm q : Str) (N : Addr) (bs : List Value) (hdct : Bool) (sn : List Str) (sub : List Value) (ab : Bool) (col : Option Bool) (dd : Option Addr) (k0 k1 k2 k3 k5 : Option Value),
    (hd1.heap_39 w.params).lookup 90 = some (excClassObj nm q 90 N bs bm90 hdct sn sub ab col dd k0 k1 k2 k3 k5 "Exception.__new__") := by
  refine' exc_look_of ?h1 ?h2 ?h3
  case h1 => k_is
  case h2 => rfl
  case h3 => rfl
theorem make90 {w : World} {A : Around} {R : Result → Shared → Prop} {s : Shared} {h₀ : Heap} {mt : Str} {mk : Tok}
    (O : On w h₀ s.heap) (hr : Room A 11)
    (ret : ∀ e dd tp h' tk', Mod [] s.heap h' → s.heap.get? e = none → s.heap.get? tp = none → h'.get? tp = some (tupO [.str mt mk]) → h'.get? e = some (excD 90 dd tp) → R (.ok (.ret (.ref e))) { s with heap := h', toks := tk' }) :
    codeAny (model PySem.Challenge.rw_sv0019_01.row.prog w) A (.call (.ref 90) ⟨[.str mt mk], []⟩) R s := by
  have XS : (hd1.heap_39 w.params).In s.heap := O.wd.1.keeps O.stays
  obtain ⟨nm, q, N, bs, hdct, sn, sub, ab, col, dd0, k0, k1, k2, k3, k5, hlk⟩ := exc90 w
  obtain ⟨h, g, d, t, os⟩ := s
  have fi : findIn (hd1.heap_39 w.params) (.ref 90) "__init__" = some (some (.ref 87)) := by k_is
  have ft : typeIn (hd1.heap_39 w.params) (.ref 87) = some (.type "function") := by k_is
  have k : ∀ b o, h.get? b = some o → ((h.push { cls := .type "tuple", data := .seq [Value.str mt mk].toArray }).push (excObj 90 h.objs.size)).get? b = some o := fun b o e => Heap.get?_push_of_some _ (Heap.get?_push_of_some _ e)
  have M1 : Mod [] h ((h.push { cls := .type "tuple", data := .seq [Value.str mt mk].toArray }).push (excObj 90 h.objs.size)) := fun b o _ q => k b o q
  have ne : h.get? (h.objs.size + 1) = none := Heap.get?_none_of_le (Nat.le_succ _)
  have ae : ((h.push { cls := .type "tuple", data := .seq [Value.str mt mk].toArray }).push (excObj 90 h.objs.size)).get? (h.objs.size + 1) = some (excObj 90 h.objs.size) := by heap_get
  have n0 : h₀.get? (h.objs.size + 1) = none := by
    cases z : h₀.get? (h.objs.size + 1) with
    | none => rfl
    | some o => have := O.stays _ _ z; dsimp only at this; rw [ne] at this; cases this
  refine exc_make PySem.F.excBase_Exception (by decide) (by decide) (by decide) (XS _ _ hlk) (looks_findIn XS fi) (fun self => bind_fn XS self ft) ?_ (Nat.le_of_ble_eq_true rfl)
  refine init87 (h₀ := h₀) (O.mod M1 (fun _ z => nomatch z)) hr.under ⟨ae, n0⟩ ?_
  intro dd tp h' tk' M2 ntp atp a2
  refine ⟨rfl, ret (h.objs.size + 1) dd tp h' tk' (fun b o _ q => M2 b o (fun z => ?_) (M1 b o (fun z => nomatch z) q)) ne (none_of M1 ntp) atp a2⟩
  rw [List.mem_singleton.mp z] at q
  dsimp only at q
  rw [ne] at q; cases q
end
section
section
variable {M : Model} {A : Around} {E : Value → Shared → Prop} {env : Env}
variable {nm q : Str} {C N : Addr} {bs bm : List Value} {hdct : Bool} {sn : List Str} {sub : List Value} {ab : Bool} {col : Option Bool} {dd0 : Option Addr} {k0 k1 k2 k3 k5 : Option Value} {newId : String}
theorem raise_excD {s : Shared} {x : Sem Value} {Q : Flow → Shared → Prop} (hbase : bm.contains (.type "BaseException") = true) (hh : A.handled = none)
    (h : wpAny M A x (fun v s₁ => ∃ e dd t, v = .ref e ∧ s₁.heap.get? C = some (excClassObj nm q C N bs bm hdct sn sub ab col dd0 k0 k1 k2 k3 k5 newId) ∧ s₁.heap.get? e = some (excD C dd t) ∧ E (.ref e) s₁) E s) :
    wpAny M A (raiseStmt env (some x) none) Q E s := by
  have hcB : (Value.ref C :: bm).contains (.type "BaseException") = true := by rw [List.contains_cons, hbase, Bool.or_true]
  unfold raiseStmt
  refine wpAny_bind (wpAny_mono h (fun v s₁ h₁ => ?_) fun _ _ x => x)
  obtain ⟨e, dd, t, rfl, hC, he, hE⟩ := h₁
  obtain ⟨hp, g, d, tk, os⟩ := s₁
  repeat (first | with_reducible refine wpAny_loadPart_at he ?_ | with_reducible refine wpAny_loadPart_at hC ?_ | (with_reducible refine wpAny_isSubtype_exc hC ?_; rw [hcB]) | wp_step)
  exact wpAny_raiseNew_none hh hE
end
theorem enterR {w : World} {A : Around} {R : Result → Shared → Prop} {s : Shared} {h₀ : Heap} {name qual : Str} {params : Arguments} {body : List Stmt} {scope : Scope} {dV kV doc pm cdv ct oc : Value} {an od : Option Addr} {osl : Array (Option Value)} {f : Addr} {args : Args} {binds : List (Str × Value)}
    (news : List (Addr × Obj))
    (O : On w h₀ s.heap) (N : AllAt h₀ s.heap news)
    (ho : (hd1.heap_39 w.params).lookup f = some ⟨oc, od, .func (fnOf name qual params body scope dV kV doc pm an cdv ct), osl⟩) (hcd : codeIn (hd1.heap_39 w.params) cdv qual = true) (hroom : A.depth < recursionLimit)
    (hbind : BindsTo s (fnOf name qual params body scope dV kV doc pm an cdv ct) args binds) (hloc : ∀ y ∈ binds, scope.names.lookup y.1 = some .local)
    (h : ∀ (g : Heap) (L' : Addr) (h₁ : Heap) (p : Program) (loose : List Str) (mean : ExcName → Option Value) (mg mb : Str → Option Value),
      (∀ b o, h₀.get? b = some o → g.get? b = some o) → (∀ b o, b ∉ news.map (·.1) → s.heap.get? b = some o → g.get? b = some o) → Fr g L' h₁ (fun y => binds.reverse.lookup y) → News g L' h₁ news → (hd1.heap_39 w.params).In g → Top p loose mean mg mb g → s.heap.get? L' = none →
      wpAny (model PySem.Challenge.rw_sv0019_01.row.prog w) (A.deeper (envOf qual scope L' f cdv)) (execs body (envOf qual scope L' f cdv))
        (fun fl s' => R (.ok (.ret (match fl with | .ret v => v | _ => .none))) s')
        (fun e s' => wpAny (model PySem.Challenge.rw_sv0019_01.row.prog w) (A.deeper (envOf qual scope L' f cdv)) (leaving (envOf qual scope L' f cdv) e) (fun _ s'' => R (.error e) s'') (fun e' s'' => R (.error e') s'') s')
        { s with heap := h₁, toks := s.toks + binds.length })
    (hco : scope.isCoroutine = false) (hgen : scope.isGenerator = false) (hk : scope.kind = .function)
    (hcell : ∀ x ∈ scope.names, x.2 ≠ .cell) : codeAny (model PySem.Challenge.rw_sv0019_01.row.prog w) A (.call (.ref f) args) R s := by
  obtain ⟨⟨X₀, p, loose, mean, mg, mb, T⟩, st⟩ := O
  refine codeAny_call_def (fd := fnX name qual params body scope [] dV kV doc pm an cdv ct) (body := body) (binds := binds) hroom ((X₀.keeps st) _ _ ho) rfl (T.nolimit.keeps st) (codeRec_of (X₀.keeps st) hcd) rfl hbind hcell hloc (fun h₁ hns hk₁ => ?_) hco hgen hk
  have nm : ∀ b o, h₀.get? b = some o → b ∉ news.map (·.1) := fun b o e q => by
    obtain ⟨p, hp, rfl⟩ := List.mem_map.mp q
    rw [(N p hp).2] at e; cases e
  have st' : ∀ b o, h₀.get? b = some o → (hideAll s.heap (news.map (·.1))).get? b = some o := fun b o e => hideAll_get _ (st b o e) (nm b o e)
  exact h (hideAll s.heap (news.map (·.1))) s.heap.objs.size h₁ p loose mean mg mb st' (fun b o hb e => hideAll_get _ e hb) ⟨hns, fun b o e => hk₁ b o (of_hideAll _ e), Nat.le_of_eq (hideAll_size _ _)⟩
    (fun p hp => ⟨hk₁ _ _ (N p hp).1, Nat.ne_of_lt (Heap.lt_size (N p hp).1), hideAll_none _ (List.mem_map_of_mem hp)⟩) (X₀.keeps (fun b o e => st' b o e)) (T.keeps (fun b o e => st' b o e)) (Heap.get?_none_of_le (Nat.le_refl _))
end
section
theorem exec_raise90 {prog : Program} {w : World} {A : Around} {E : Value → Shared → Prop} {s : Shared} {env : Env} {c : PySem.Expr} {pos : Pos} {Q : Flow → Shared → Prop} (hh : A.handled = none)
    (h : wpAny (model prog w) A (eval c env) (fun v s₁ => ∃ e dd t, v = .ref e ∧ (hd1.heap_39 w.params).In s₁.heap ∧ s₁.heap.get? e = some (excD 90 dd t) ∧ E (.ref e) s₁) E s) :
    wpAny (model prog w) A (exec (.Raise (some c) none pos) env) Q E s := by
  obtain ⟨nm, q, N, bs, hdct, sn, sub, ab, col, dd0, k0, k1, k2, k3, k5, hlk⟩ := exc90 w
  rw [arm_exec_Raise]
  have h' : wpAny (model prog w) A (eval c env) (fun v s₁ => ∃ e dd t, v = .ref e ∧ s₁.heap.get? 90 = some (excClassObj nm q 90 N bs bm90 hdct sn sub ab col dd0 k0 k1 k2 k3 k5 "Exception.__new__") ∧ s₁.heap.get? e = some (excD 90 dd t) ∧ E (.ref e) s₁) E s :=
    wpAny_mono h (fun v s₁ ⟨e, dd, t, a, b, c, d⟩ => ⟨e, dd, t, a, b _ _ hlk, c, d⟩) fun _ _ z => z
  exact wpAny_bind (wpAny_standAt (raise_excD (bm := bm90) (by decide) hh (wpAny_bind (wpAny_mono h' (fun v s₁ z => wpAny_bind (wpAny_standAt (wpAny_pure z))) fun _ _ z => z))))
theorem leave_exc {M : Model} {A : Around} {E : Value → Shared → Prop} {s : Shared} {h1 B : Heap} {env : Env} {outer : List Env} {L e dd tp : Addr} {Q : Unit → Shared → Prop}
    (hfr : A.frames = some outer) (hf : env.frame = some L) (hk : env.scope.kind = .function) (hl : h1.FunFrames B outer) (hB : B.StaysIn h1) (k : ∀ b o, h1.get? b = some o → s.heap.get? b = some o) (nL : h1.get? L = none) (hLd : ∃ o es n, s.heap.get? L = some o ∧ o.data = .dict es n)
    (ne : h1.get? e = none) (he : s.heap.get? e = some (excD 90 dd tp))
    (hQ : ∀ h', Heap.FlyingW B outer e (.ref 90) (.ref tp) h' → h1.UpToSlots h' → Q () { s with heap := h' }) : wpAny M (A.deeper env) (leaving env (.ref e)) Q E s := by
  have fresh : ∀ b, h1.get? b = none → B.get? b = none := fun b hb => by
    cases hq : B.get? b with
    | none => rfl
    | some o' => have := hB b o' hq; rw [hb] at this; cases this
  obtain ⟨o, es, n, ho, hd⟩ := hLd
  have hl2 : s.heap.FunFrames B (env :: outer) := by
    refine ⟨?_, ⟨L, o, hf, fresh L nL, ho, ?_⟩, hl.of_keeps fun b o hb _ => ⟨o, k b o hb, rfl⟩⟩
    · rw [hk]; decide
    · intro vs z
      rw [hd] at z; cases z
  refine wpAny_leaving_firstW (a0 := .ref tp) (Around.frames_deeper hfr) hl2 hf he (fun b o hb => k b o (hB b o hb)) (fresh e ne) rfl rfl rfl fun h' hL => ?_
  obtain ⟨k1, ⟨_, _, k2⟩, k3, k4⟩ := hL
  exact hQ h' ⟨k1, fresh e ne, k2, k3⟩ ((Heap.UpToSlots.of_keeps k).trans k4)
end
end
section
local macro_rules | `(tactic| walk_at "binaryOp Mod int int") => `(tactic| ((with_reducible refine mod8_nat ?_)))
local macro_rules | `(tactic| walk_at "binaryOp Mod int int") => `(tactic| ((with_reducible refine mod_any (by assumption) ?_); intro r1 hr1 hr2))
local macro_rules | `(tactic| walk_at "binaryOp FloorDiv int int") => `(tactic| ((with_reducible refine div8_nat (by omega) ?_)))
local macro_rules | `(tactic| walk_at "binaryOp LShift int int") => `(tactic| ((with_reducible refine shl1_nat (by omega) ?_)))
local macro_rules | `(tactic| walk_at "subscriptTail") => `(tactic| (k_here; (with_reducible show wpAny _ _ (subscriptTail _ _ (Value.ref _) (Value.int _ _)) _ _ _); (with_unfolding_all refine' item_ints ?k1 ?k2 ?k3 ?k4 ?k5 ?_ ?k7; (case k1 => exact News.isList (by k_asm) (by k_mem)); (case k2 => assumption); (case k3 => omega); (case k4 => omega); (case k5 => omega); (case k7 => with_unfolding_all rfl); k_whole); intro _))
local macro_rules | `(tactic| walk_at "bf dec") => `(tactic| ((try simp only [decide_eq_true_eq, decide_eq_false_iff_not, Bool.not_eq_true', Bool.not_eq_false', Bool.not_eq_true, Bool.not_eq_false, beq_iff_eq, Bool.and_eq_true, Bool.not_true, Bool.not_false]); first | rfl | omega))
local macro_rules | `(tactic| walk_at "ite") => `(tactic| (k_here; (first | (k_closed; k_dflt (first | refine ite_pos (by decide) ?_ | refine ite_neg (by decide) ?_)) | refine ite_pos (by first | assumption | (walk_at "bf dec")) ?_ | refine ite_neg (by first | assumption | (walk_at "bf dec")) ?_ | (refine bf_ite ?_ ?_ <;> intro hc)); (try dsimp only)))
local macro_rules | `(tactic| walk_at "bf steps") => `(tactic| repeat' (first | (k_unfold; (try dsimp only)) | (walk1 <;> (try dsimp only)) | fail "no step"))
local macro_rules | `(tactic| walk_at "bf enter") => `(tactic| (refine' enter _ (by assumption) (by assumption) ?ho ?hcd ?hroom ?hbind ?hloc ?_ ?c1 ?c2 ?c3 ?c4; (case ho => k_is); (case hcd => k_is); (case hroom => first | assumption | omega | exact Room.lt (by assumption)); (case hbind => first | exact BindsTo.of_eq rfl | exact binds_K (by assumption) rfl (by k_is) rfl rfl rfl); (case hloc => exact locs rfl); (case c1 => exact rfl); (case c2 => exact rfl); (case c3 => exact rfl); (case c4 => decide)))
local macro_rules | `(tactic| walk_at "getMethod ref") => `(tactic| (k_here; (with_reducible show wpAny _ _ (getMethod _ (Str.ofString "_get_optimized_params") _) _ _ _); k_dflt (refine' cm_slot ?k1 ?k2 ?k3 ?k4 ?k5 ?k6 ?k7 ?k8 ?k9 ?k10 ?k11 ?k12 ?k13 ?_; (case k1 => k_asm); (case k2 => k_asm); (case k3 => k_asm); (case k4 => k_inst); (case k5 => k_is); (case k6 => k_is); (case k7 => k_is); (case k8 => k_is); (case k9 => k_is); (case k10 => k_is); (case k11 => k_is); (case k12 => decide +kernel); (case k13 => k_is); k_whole; intro q' h' F' N' l1; (try k_lt l1))))
local macro_rules | `(tactic| walk_at "callWith ref") => `(tactic| (k_here; (with_reducible show wpAny _ _ (callWith _ _ _ (backTo _ (starEach (_ :: _) _)) []) _ _ _); k_dflt (refine' callWith_K ?k1 ?k2 ?_; (case k1 => k_asm); (case k2 => k_is); k_whole)))
local macro_rules | `(tactic| walk_at "callWith ref") => `(tactic| (k_here; (with_reducible show wpAny _ _ (callWith _ _ _ _ (backToKw _ (keywordEach (_ :: _) _))) _ _ _); k_dflt (refine' callWith_KW ?k1 ?k2 ?k3 ?_; (case k1 => k_asm); (case k2 => k_is); (case k3 => exact rfl); k_whole)))
local macro_rules | `(tactic| walk_at "call builtin:len") => `(tactic| (k_here; (with_reducible show wpAny _ _ (call (Value.builtin "len") [Value.ref _]) _ _ _); (with_unfolding_all refine' call_len_list (items := (refs _).toArray) ?k1 ?k2 ?_; (case k1 => exact News.isList (by k_asm) (by k_mem)); (case k2 => (rw [List.size_toArray]; omega)); k_whole)))
local macro_rules | `(tactic| walk_at "subscriptTail") => `(tactic| (k_here; (with_reducible show wpAny _ _ (subscriptTail _ _ (Value.ref _) (Value.int _ _)) _ _ _); first
  | ((with_reducible show wpAny _ _ (subscriptTail _ _ (Value.ref _) (Value.int (-1) _)) _ _ _); with_unfolding_all refine' last_item ?k1 ?k2 ?_ ?k3; (case k2 => exact News.isList (by k_asm) (by k_mem)); (case k1 => assumption); (case k3 => with_unfolding_all rfl); k_whole)
  | ((with_reducible show wpAny _ _ (subscriptTail _ _ (Value.ref _) (Value.int 0 _)) _ _ _); with_unfolding_all refine' head_item ?k1 ?k2 ?_ ?k3; (case k2 => exact News.isList (by k_asm) (by k_mem)); (case k1 => assumption); (case k3 => with_unfolding_all rfl); k_whole)))
local macro_rules | `(tactic| walk_at "call builtin:list.pop") => `(tactic| (k_here; (with_reducible show wpAny _ _ (call (Value.builtin _) [Value.ref _, Value.int _ _]) _ _ _); k_dflt (refine' pop_refs ?F ?N ?U ?z ?_; (case F => k_asm); (case N => k_asm); (case U => k_upd); (case z => assumption)); (intro h' F' N'; (try dsimp only [List.nil_append, List.cons_append] at N'))))
local macro_rules | `(tactic| walk_at "getMethod ref") => `(tactic| (k_here; (with_reducible show wpAny _ _ (getMethod (Value.ref (BH.x _)) (Str.ofString "add_alt") _) _ _ _); k_dflt (refine' method_fn (C := 325) (f := 248) (od := some (dictOf [] 0)) ?y0 ⟨?x1, ?x3, ?x4, ?x2⟩ ?y1 ?y2 ?y3 ?y4 ?y5 ?_; (case y0 => assumption); (case x1 => assumption); (case x3 => exact rfl); (case x4 => exact rfl); (case x2 => assumption); (case y1 => k_is); (case y2 => k_is); (case y3 => k_is); (case y4 => k_is); (case y5 => exact rfl); k_whole)))
local macro_rules | `(tactic| walk_at "getMethod ref") => `(tactic| (k_here; (with_reducible show wpAny _ _ (getMethod (Value.ref (BH.x _)) (Str.ofString "hashes") _) _ _ _); k_dflt (refine' method_fn (C := 325) (f := 234) (od := some (dictOf [] 0)) ?y0 ⟨?x1, ?x3, ?x4, ?x2⟩ ?y1 ?y2 ?y3 ?y4 ?y5 ?_; (case y0 => assumption); (case x1 => assumption); (case x3 => exact rfl); (case x4 => exact rfl); (case x2 => assumption); (case y1 => k_is); (case y2 => k_is); (case y3 => k_is); (case y4 => k_is); (case y5 => exact rfl); k_whole)))
local macro_rules | `(tactic| walk_at "getMethod ref") => `(tactic| (k_here; (with_reducible show wpAny _ _ (getMethod (Value.ref _) (Str.ofString "_hash_func") _) _ _ _); k_dflt (refine' mu_slot ?y0 ?y6 ?y5 ?y1 ?y2 ?y3 ?y4 ?_; (case y0 => k_asm); (case y6 => k_asm); (case y5 => k_inst); (case y1 => k_is); (case y2 => k_is); (case y3 => k_is); (case y4 => first | exact rfl | decide +kernel); k_whole)))
local macro_rules | `(tactic| walk_at "callWith ref") => `(tactic| (k_here; (with_reducible show wpAny _ _ (callWith _ (Value.ref _) [] (backTo _ (starEach (_ :: _) _)) []) _ _ _); (rename (FnAt _ _) => fnX); k_dflt (refine' callWith_H ?k1 ?k2 ?k3 ?_; (case k1 => exact fnX); (case k2 => assumption); (case k3 => k_asm); k_whole)))
local macro_rules | `(tactic| walk_at "FnAt") => `(tactic| (k_dflt (refine' fnat_H ?k1 ?k2 ?k3; (case k1 => assumption); (case k2 => assumption); (case k3 => k_asm))))
local macro_rules | `(tactic| walk_at "exec Raise some none") => `(tactic| (refine exec_raise90 rfl ?_))
section
theorem pop_rot {w : World} {A : Around} {R : Result → Shared → Prop} {s : Shared} {h₀ B : Heap} {D : BD} {e de L : Addr} {added q : Int} {bs : List BH} {outer : List Env}
    (O : On w h₀ s.heap) (hr : Room A 20) (Z : Fil (some q) D h₀ s.heap e de L added bs) (hsz : bs.length < 900)
    (hfr : A.frames = some outer) (hl : s.heap.FunFrames B outer) (hB : B.StaysIn s.heap)
    (ret : bs.length ≠ 1 → ∀ h' tk', Mod [L] s.heap h' → Fil (some q) D h₀ h' e de L added bs.tail → R (.ok (.ret .none)) { s with heap := h', toks := tk' })
    (retE : bs.length = 1 → ∀ x tp h' tk', Heap.FlyingW B outer x (.ref 90) (.ref tp) h' → s.heap.UpToSlots h' → R (.error (.ref x)) { s with heap := h', toks := tk' }) :
    codeAny (model PySem.Challenge.rw_sv0019_01.row.prog w) A (.call (.ref 513) ⟨[.ref e], []⟩) R s := by
  obtain ⟨hd0, dp0, fr0, gd0, un0⟩ := A
  obtain rfl : hd0 = none := hr.hd
  obtain ⟨t1, t2, t3, t4, n, he, hd, hL, Bl, hnd, hne⟩ := id Z
  obtain ⟨b0, bs1, rfl⟩ : ∃ b0 bs1, bs = b0 :: bs1 := by
    cases bs with
    | nil => exact absurd rfl hne
    | cons b bs => exact ⟨_, _, rfl⟩
  have n2 := neN (fun q : e = de => At.clash he (q ▸ hd))
  have n3 := neN (fun q : e = L => At.clash he (q ▸ hL))
  have n4 := neN (fun q : de = L => At.clash hd (q ▸ hL))
  have hs2 : (b0 :: bs1).length < 1000 := Nat.lt_trans hsz (by decide)
  have Al : AllAt h₀ s.heap [(e, rotO de L D.hf D.est D.bits added q t1 t2 t3 t4), (de, dictOf [] 0), (L, listO (refs (b0 :: bs1)) n)] :=
    List.forall_mem_cons.mpr ⟨he, List.forall_mem_cons.mpr ⟨hd, List.forall_mem_cons.mpr ⟨hL, List.forall_mem_nil _⟩⟩⟩
  refine' enterR _ O Al ?ho ?hcd ?hroom ?hbind ?hloc ?_ ?c1 ?c2 ?c3 ?c4
  case ho => k_is
  case hcd => k_is
  case hroom => exact hr.lt
  case hbind => exact BindsTo.of_eq rfl
  case hloc => exact locs rfl
  case c1 => exact rfl
  case c2 => exact rfl
  case c3 => exact rfl
  case c4 => decide
  intro g L' h₁ p₁ loose mean mg mb hg0 hg2 F N X T nL'
  (try dsimp only); (try k_fold)
  walk_at "bf steps"
  refine prop_rot_cur (h₀ := h₀) (bs := b0 :: bs1) (O.fr hg0 F) (hr.down 13).deeper (At.ofNews hg0 N (.head _)) (At.ofNews hg0 N (.tail _ (.head _))) (At.ofNews hg0 N (.tail _ (.tail _ (.head _)))) hs2 ?_
  intro tn h2 tk2 M2
  dsimp only
  have F2 := fr_mod0 F M2
  have N2 := news_mod0 N M2
  clear N
  walk_at "bf steps"
  · rename_i hc tk3 h3 F3 N3
    have M3 : Mod [] s.heap h3 := mod_of [] hg2 F3 N3 Al (fun p hp _ => hp)
    refine wpAny_call ?_
    refine make90 (h₀ := h₀) (O.fr hg0 F3) (hr.down 8).deeper ?_
    intro x dd tp h4 tk4 M4 nx ntp atp ax
    have F4 := fr_mod0 F3 M4
    dsimp only at *
    refine ⟨x, dd, tp, rfl, X.keeps F4.keep, ax, ?_⟩
    have M14 : Mod [] s.heap h4 := M3.trans M4
    obtain ⟨oL, es, ep, hoL, hoD, _⟩ := F4.ns
    exact leave_exc (h1 := s.heap) hfr rfl rfl hl hB (fun b o q => M14 b o (fun z => nomatch z) q) nL' ⟨oL, es, _, hoL, hoD⟩ (none_of M3 nx) ax (fun h5 f5 u5 => retE (by have h9 := beq_iff_eq.mp hc; omega) x tp h5 _ f5 u5)
  · rename_i hc tk3 h3 F3 N3
    have M3 : Mod [L] s.heap h3 := mod_of [L] hg2 F3 N3 Al (fun p hp hW => by
      rcases List.mem_cons.mp hp with rfl | hp
      · exact .head _
      rcases List.mem_cons.mp hp with rfl | hp
      · exact .tail _ (.head _)
      rcases List.mem_cons.mp hp with rfl | hp
      · exact absurd (List.mem_singleton.mpr rfl) hW
      · cases hp)
    have hlen : (b0 :: bs1).length ≠ 1 := fun z => hc (beq_iff_eq.mpr (by rw [z]; rfl))
    refine ret hlen h3 _ M3 ⟨t1, t2, t3, t4, n + 1, At.ofNews hg0 N3 (.head _), At.ofNews hg0 N3 (.tail _ (.head _)), At.ofNews hg0 N3 (.tail _ (.tail _ (.head _))), fun b hb => ?_, ?_, ?_⟩
    · have hb' : b ∈ b0 :: bs1 := List.mem_of_mem_tail hb
      obtain ⟨m1, m2, m3⟩ := mem_feet hb'
      have kk : ∀ a ∈ feet (b0 :: bs1), a ∉ [L] := fun a ha z => (List.nodup_cons.mp hnd).1 ((List.mem_singleton.mp z) ▸ ha)
      exact (Bl b hb').mod M3 (kk _ m1) (kk _ m2) (kk _ m3)
    · have e9 : L :: feet (b0 :: bs1) = [L, b0.x, b0.dx, b0.l] ++ feet bs1 := rfl
      rw [e9] at hnd
      refine List.Nodup.sublist ?_ hnd
      exact List.Sublist.cons_cons _ (.cons _ (.cons _ (.cons _ (.refl _))))
    · intro z
      have z' : bs1 = [] := z
      rw [z'] at hlen
      exact hlen rfl
end
end
section
local macro_rules | `(tactic| walk_at "binaryOp Mod int int") => `(tactic| ((with_reducible refine mod8_nat ?_)))
local macro_rules | `(tactic| walk_at "binaryOp Mod int int") => `(tactic| ((with_reducible refine mod_any (by assumption) ?_); intro r1 hr1 hr2))
local macro_rules | `(tactic| walk_at "binaryOp FloorDiv int int") => `(tactic| ((with_reducible refine div8_nat (by omega) ?_)))
local macro_rules | `(tactic| walk_at "binaryOp LShift int int") => `(tactic| ((with_reducible refine shl1_nat (by omega) ?_)))
local macro_rules | `(tactic| walk_at "subscriptTail") => `(tactic| (k_here; (with_reducible show wpAny _ _ (subscriptTail _ _ (Value.ref _) (Value.int _ _)) _ _ _); (with_unfolding_all refine' item_ints ?k1 ?k2 ?k3 ?k4 ?k5 ?_ ?k7; (case k1 => exact News.isList (by k_asm) (by k_mem)); (case k2 => assumption); (case k3 => omega); (case k4 => omega); (case k5 => omega); (case k7 => with_unfolding_all rfl); k_whole); intro _))
local macro_rules | `(tactic| walk_at "bf dec") => `(tactic| ((try simp only [decide_eq_true_eq, decide_eq_false_iff_not, Bool.not_eq_true', Bool.not_eq_false', Bool.not_eq_true, Bool.not_eq_false, beq_iff_eq, Bool.and_eq_true, Bool.not_true, Bool.not_false]); first | rfl | omega))
local macro_rules | `(tactic| walk_at "ite") => `(tactic| (k_here; (first | (k_closed; k_dflt (first | refine ite_pos (by decide) ?_ | refine ite_neg (by decide) ?_)) | refine ite_pos (by first | assumption | (walk_at "bf dec")) ?_ | refine ite_neg (by first | assumption | (walk_at "bf dec")) ?_ | (refine bf_ite ?_ ?_ <;> intro hc)); (try dsimp only)))
local macro_rules | `(tactic| walk_at "bf steps") => `(tactic| repeat' (first | (k_unfold; (try dsimp only)) | (walk1 <;> (try dsimp only)) | fail "no step"))
local macro_rules | `(tactic| walk_at "bf enter") => `(tactic| (refine' enter _ (by assumption) (by assumption) ?ho ?hcd ?hroom ?hbind ?hloc ?_ ?c1 ?c2 ?c3 ?c4; (case ho => k_is); (case hcd => k_is); (case hroom => first | assumption | omega | exact Room.lt (by assumption)); (case hbind => first | exact BindsTo.of_eq rfl | exact binds_K (by assumption) rfl (by k_is) rfl rfl rfl); (case hloc => exact locs rfl); (case c1 => exact rfl); (case c2 => exact rfl); (case c3 => exact rfl); (case c4 => decide)))
local macro_rules | `(tactic| walk_at "getMethod ref") => `(tactic| (k_here; (with_reducible show wpAny _ _ (getMethod _ (Str.ofString "_get_optimized_params") _) _ _ _); k_dflt (refine' cm_slot ?k1 ?k2 ?k3 ?k4 ?k5 ?k6 ?k7 ?k8 ?k9 ?k10 ?k11 ?k12 ?k13 ?_; (case k1 => k_asm); (case k2 => k_asm); (case k3 => k_asm); (case k4 => k_inst); (case k5 => k_is); (case k6 => k_is); (case k7 => k_is); (case k8 => k_is); (case k9 => k_is); (case k10 => k_is); (case k11 => k_is); (case k12 => decide +kernel); (case k13 => k_is); k_whole; intro q' h' F' N' l1; (try k_lt l1))))
local macro_rules | `(tactic| walk_at "callWith ref") => `(tactic| (k_here; (with_reducible show wpAny _ _ (callWith _ _ _ (backTo _ (starEach (_ :: _) _)) []) _ _ _); k_dflt (refine' callWith_K ?k1 ?k2 ?_; (case k1 => k_asm); (case k2 => k_is); k_whole)))
local macro_rules | `(tactic| walk_at "callWith ref") => `(tactic| (k_here; (with_reducible show wpAny _ _ (callWith _ _ _ _ (backToKw _ (keywordEach (_ :: _) _))) _ _ _); k_dflt (refine' callWith_KW ?k1 ?k2 ?k3 ?_; (case k1 => k_asm); (case k2 => k_is); (case k3 => exact rfl); k_whole)))
local macro_rules | `(tactic| walk_at "call builtin:len") => `(tactic| (k_here; (with_reducible show wpAny _ _ (call (Value.builtin "len") [Value.ref _]) _ _ _); (with_unfolding_all refine' call_len_list (items := (refs _).toArray) ?k1 ?k2 ?_; (case k1 => exact News.isList (by k_asm) (by k_mem)); (case k2 => (rw [List.size_toArray]; omega)); k_whole)))
section
local macro_rules | `(tactic| walk_at "bf none") => `(tactic| skip)
theorem caught90 {prog : Program} {w : World} {A : Around} {E : Value → Shared → Prop} {s' : Shared} {B : Heap} {env : Env} {outer : List Env} {L e tp : Addr} {x : Str} {np pos : Pos} {b₀ : Stmt} {suite : List Stmt} {rest : List ExceptHandler} {Q : Flow → Shared → Prop}
    (hfr : A.frames = some outer) (hfL : env.frame = some L) (hfl : Heap.FlyingW B (env :: outer) e (.ref 90) (.ref tp) s'.heap) (KB : (hd1.heap_39 w.params).In B)
    (nm : ∀ h₅ (Q' : Value → Shared → Prop) E', B.StaysIn h₅ → s'.heap.UpToSlots h₅ → Q' (.ref 90) { s' with heap := h₅ } → wpAny (model prog w) ((A.deeper env).mark (some (.ref e))) (eval (.Name x np) env) Q' E' { s' with heap := h₅ })
    (k : ∀ h₆, B.StaysIn h₆ → s'.heap.UpToSlots h₆ → wpAny (model prog w) ((A.deeper env).mark (some (.ref e))) (execs (b₀ :: suite) env) Q (fun _ _ => False) { s' with heap := h₆ }) :
    wpAny (model prog w) (A.deeper env) (noteFrame (.ref e) env)
      (fun _ s₂ => wpAny (model prog w) (A.deeper env) (setFlight (.ref e) none) (fun _ s₃ =>
        wpAny (model prog w) (A.deeper env) (handleBy (.ref e) env (.ExceptHandler (some (.Name x np)) none (b₀ :: suite) pos :: rest)) Q E s₃) E s₂) E s' := by
  obtain ⟨nm9, q9, N9, bs9, hdct, sn, sub, ab, col, dd0, k0, k1, k2, k3, k5, hlk⟩ := exc90 w
  refine wpAny_looks_onW (Around.frames_deeper hfr) hfL hfl fun h₄ hheld₄ hsm₄ => ?_
  refine wpAny_landsW hheld₄ fun h₅ hheld hsm₅' => ?_
  have hsm₅ := hsm₄.trans hsm₅'
  obtain ⟨ob, hob, hobc⟩ := hheld.there
  have st₅ : B.StaysIn h₅ := hheld.1
  have hC := KB.keeps st₅ _ _ hlk
  refine wpAny_handleBy_cons (codeAny_handlers_test (nm h₅ _ _ st₅ hsm₅ ?_)) (by intro q; cases q)
  obtain ⟨hp, g, d, t, os⟩ := s'
  refine wpAny_excMatches_sub_self hC hob hobc (by decide) (codeAny_handlers_suite ?_)
  refine lands_againW hheld fun h₆ hfl₆ hsm₆ => ?_
  exact wpAny_noRaise (k h₆ hfl₆.1 (hsm₅.trans hsm₆))
end
section
local macro_rules | `(tactic| walk_at "bf none") => `(tactic| skip)
local macro_rules | `(tactic| walk_at "bf none") => `(tactic| skip)
theorem prop_bl_nh {w : World} {A : Around} {E : Value → Shared → Prop} {Q : Value → Shared → Prop} {s : Shared} {h₀ : Heap} {e de L : Addr} {hf : Value} {blen cnt est bits nh : Int} {t1 t2 t3 t4 t5 t6 t7 t8 : Tok} {b : Bool} 
    (O : On w h₀ s.heap) (hr : Room A 6) (he : At h₀ s.heap e (bloomO de L hf blen cnt est bits nh t1 t2 t3 t4 t5 t6 t7 t8)) (hd : At h₀ s.heap de (dictOf [] 0)) 
    (ret : ∀ h' tk', Mod [] s.heap h' → Q (.int nh t6) { s with heap := h', toks := tk' }) :
    wpAny (model PySem.Challenge.rw_sv0019_01.row.prog w) A (getAttr (.ref e) (Str.ofString "number_hashes") b) Q E s := by
  obtain ⟨hd0, dp0, fr0, gd0, un0⟩ := A
  obtain rfl : hd0 = none := hr.hd
  have n2 := neN (fun q : e = de => At.clash he (q ▸ hd))
  have XS : (hd1.heap_39 w.params).In s.heap := O.wd.1.keeps O.stays
  refine' prop_slot (K := hd1.heap_39 w.params) (C := 325) (ox := bloomO de L hf blen cnt est bits nh t1 t2 t3 t4 t5 t6 t7 t8) (o := dictOf [] 0) XS ⟨he.1, rfl, rfl, hd.1⟩ ?g ?c ?a ?nn ?t ?p ?_
  case g => k_is
  case c => k_is
  case a => k_is
  case nn => k_is
  case t => k_is
  case p => k_is
  have O' : On w h₀ ({ s with toks := s.toks + 1 } : Shared).heap := O
  have Al : AllAt h₀ ({ s with toks := s.toks + 1 } : Shared).heap [(e, bloomO de L hf blen cnt est bits nh t1 t2 t3 t4 t5 t6 t7 t8), (de, dictOf [] 0)] := List.forall_mem_cons.mpr ⟨he, List.forall_mem_cons.mpr ⟨hd, List.forall_mem_nil _⟩⟩
  have hr1 : Room (Around.in1 ⟨none, dp0, fr0, gd0, un0⟩) 5 := hr.in1
  walk_at "bf enter"
  intro g L' h₁ p₁ loose mean mg mb hg0 hg2 F N X T
  (try dsimp only); (try k_fold)
  walk_at "bf steps"
  exact ret _ _ (mod_of [] hg2 F N Al (fun p hp _ => hp))
end
section
local macro_rules | `(tactic| walk_at "bf none") => `(tactic| skip)
local macro_rules | `(tactic| walk_at "bf none") => `(tactic| skip)
local macro_rules | `(tactic| walk_at "bf none") => `(tactic| skip)
structure Back (P : Prop) (fp : List Addr) (h h' : Heap) : Prop where
  inv : P
  keep : ∀ b ∈ fp, ∀ o, h.get? b = some o → h'.get? b = some o
theorem forLoopW {prog : Program} {w : World} {A : Around} {s : Shared} {env : Env} {g : Heap} {R : Result → Shared → Prop} {x : Str} {px : Pos} {body : List Stmt} {I : Addr} {fp wr : List Addr} {n : Nat} {P : Nat → Value → Prop} {St : Nat → Heap → Prop} {m : Str → Option Value}
    (W : Walks prog w A I fp wr n P St) (hx : env.kindOf x = some .local)
    (hp : (env.scope.kind == .class || (env.scope.kind == .module && env.locals != env.globals)) = false)
    (hLf : env.locals ∉ fp) (hwr : ∀ b ∈ wr, g.get? b = none)
    (J : Nat → (Str → Option Value) → Shared → Prop) (F : Fr g env.locals s.heap m) (hst : St 0 s.heap) (h0 : J 0 m s)
    (turn : ∀ i v m s h₂ tk, i < n → P i v → J i m s → Fr g env.locals h₂ (fun y => if y = x then some v else m y) → Mod (env.locals :: wr) s.heap h₂ → 
      wpAny (model prog w) A (execs body env) (fun f s₃ => match f with
        | .next | .cont => Back (∃ m', Fr g env.locals s₃.heap m' ∧ J (i + 1) m' s₃) fp h₂ s₃.heap
        | .brk => R (.ok .next) s₃
        | .ret v => R (.ok (.ret v)) s₃) (notedBy (model prog w) A env fun e s' => R (.error e) s') { s with heap := h₂, toks := tk })
    (done : ∀ m s h₂ tk, J n m s → Fr g env.locals h₂ m → Mod wr s.heap h₂ → R (.ok .next) { s with heap := h₂, toks := tk }) :
    codeAny (model prog w) A (.forLoop (.Name x px) (.ref I) body [] env) R s := by
  have hLw : env.locals ∉ wr := fun h => hLf (W.sub _ h)
  have old : ∀ b o, g.get? b = some o → b ∉ wr := fun b o e hb => by rw [hwr b hb] at e; cases e
  refine codeAny_forLoop (fun k s' => ∃ m' i, St i s'.heap ∧ Fr g env.locals s'.heap m' ∧ J i m' s' ∧ i ≤ n ∧ k = n + 1 - i) ?_ (n + 1) ⟨m, 0, hst, F, h0, Nat.zero_le _, rfl⟩
  rintro k s' ⟨m', i, hst', F', hJ, hi, rfl⟩
  have next : ∀ h₁ : Heap, (∀ b o, b ∉ wr → s'.heap.get? b = some o → h₁.get? b = some o) → Fr g env.locals h₁ m' := fun h₁ hk₁ =>
    ⟨F'.ns.at' fun o e => hk₁ _ o hLw e, fun b o e => hk₁ b o (old b o e) (F'.keep b o e), F'.above⟩
  by_cases hlt : i < n
  · refine W.item i _ _ _ hlt hst' fun v h₁ tk₁ hP hst₁ hk₁ => ?_
    have F₁ := next h₁ hk₁
    refine wpAny_assign_Name (wpAny_storeName_local hx F₁.ns (fun h₂ hn₂ hs₂ => ?_) hp)
    have F₂ := F₁.set hn₂ hs₂
    have hst₂ : St (i + 1) h₂ := W.frame _ _ _ hst₁ fun b hb o e => (hs₂.2 b fun q => hLf (q ▸ hb)).trans e
    refine wpAny_mono (turn i v m' s' h₂ (tk₁ + 1) hlt hP hJ F₂ (fun b o hb e => (hs₂.2 b fun q => hb (q ▸ .head _)).trans (hk₁ b o (fun q => hb (.tail _ q)) e))) (fun f s₃ h₃ => ?_) fun _ _ e => e
    cases f with
    | ret v => exact h₃
    | brk => exact h₃
    | cont =>
      obtain ⟨⟨m₂, F₃, hJ₃⟩, hk⟩ := h₃
      exact ⟨n + 1 - (i + 1), by omega, m₂, i + 1, W.frame _ _ _ hst₂ hk, F₃, hJ₃, hlt, rfl⟩
    | next =>
      obtain ⟨⟨m₂, F₃, hJ₃⟩, hk⟩ := h₃
      exact ⟨n + 1 - (i + 1), by omega, m₂, i + 1, W.frame _ _ _ hst₂ hk, F₃, hJ₃, hlt, rfl⟩
  · have hin : i = n := by omega
    subst hin
    refine W.done _ _ _ hst' fun h₁ tk₁ hk₁ => wpAny_execs_nil ?_
    exact done m' s' h₁ tk₁ hJ (next h₁ hk₁) hk₁
theorem For_list {prog : Program} {w : World} {A : Around} {s : Shared} {env : Env} {g : Heap} {E : Value → Shared → Prop} {Q : Flow → Shared → Prop} {x : Str} {px pos : Pos} {iter : PySem.Expr} {body : List Stmt} {vs : List Value} {m : Str → Option Value}
    (hA : A.handled = none) (hx : env.kindOf x = some .local)
    (hp : (env.scope.kind == .class || (env.scope.kind == .module && env.locals != env.globals)) = false)
    (J : Addr → Addr → Nat → (Str → Option Value) → Shared → Prop)
    (h : wpAny (model prog w) A (eval iter env) (fun xv s₁ => ∃ l, xv = .ref l ∧ s₁.heap.IsList l vs.toArray ∧ l ≠ env.locals ∧ Fr g env.locals s₁.heap m ∧
      ∀ it h', s₁.heap.get? it = none → h'.IsListIter it l 0 → Mod [] s₁.heap h' → J l it 0 m { s₁ with heap := h' }) E s)
    (turn : ∀ l it i v m s h₂ tk, l ≠ it → it ≠ env.locals → vs[i]? = some v → J l it i m s → Fr g env.locals h₂ (fun y => if y = x then some v else m y) → Mod [env.locals, it] s.heap h₂ → 
      wpAny (model prog w) A (execs body env) (fun f s₃ => match f with
        | .next | .cont => Back (∃ m', Fr g env.locals s₃.heap m' ∧ J l it (i + 1) m' s₃) [it, l] h₂ s₃.heap
        | .brk => Q .next s₃
        | .ret v => Q (.ret v) s₃) E { s with heap := h₂, toks := tk })
    (done : ∀ l it m s h₂ tk, J l it vs.length m s → Fr g env.locals h₂ m → Mod [it] s.heap h₂ → Q .next { s with heap := h₂, toks := tk })
    (hs : ∀ x, foldedSetIterable iter env x = pure x := by intro _; rfl)
    (hE : PassesOwn (model prog w) A env E := by passes_own) :
    wpAny (model prog w) A (exec (.For (.Name x px) iter body [] pos) env) Q E s := by
  refine wpAny_For (wpAny_mono h (fun xv s₁ h₁ => ?_) fun _ _ e => e) hs
  obtain ⟨l, rfl, hl, hne, F, hJ⟩ := h₁
  refine wpAny_pyIter_list hl ?_
  have hlt : l < s₁.heap.objs.size := by obtain ⟨_, e, _⟩ := hl; exact Heap.lt_size e
  have nI : s₁.heap.get? s₁.heap.objs.size = none := Heap.get?_none_of_le (Nat.le_refl _)
  have up : ∀ b o, s₁.heap.get? b = some o → (s₁.heap.push { cls := .type "list_iterator", data := .fields #[.ref l, .int 0 0] }).get? b = some o := fun b o e => Heap.get?_push_of_some _ e
  have hit : (s₁.heap.push { cls := .type "list_iterator", data := .fields #[.ref l, .int 0 0] }).IsListIter s₁.heap.objs.size l 0 := ⟨_, Heap.get?_push_size _ rfl, rfl, rfl⟩
  have hLI : env.locals ≠ s₁.heap.objs.size := Nat.ne_of_lt F.ns.lt
  refine forLoopW (R := fun r s' => match r with | .ok f => Q f s' | .error e => cameBackBy (model prog w) A env E e s') (Walks.list hA s₁.heap.objs.size l (Nat.ne_of_lt hlt) vs.toArray) hx hp (g := g) (m := m) ?_ ?_ (J l s₁.heap.objs.size) (F.keeps up) ⟨hit, hl.push _⟩ (hJ _ _ nI hit (fun b o _ e => up b o e)) ?_ ?_
  · intro hm
    rcases List.mem_cons.mp hm with e | hm
    · exact hLI e
    · exact hne (List.mem_singleton.mp hm).symm
  · intro b hb
    rw [List.mem_singleton.mp hb]
    exact next_is_new F
  · intro i v m s h₂ tk hi hP hJ F₂ M
    refine wpAny_passesOwn hE ?_
    exact turn l _ i v m s h₂ tk (Nat.ne_of_lt hlt) (Ne.symm hLI) (by simpa using hP) hJ F₂ M
  · intro m s h₂ tk hJ F₂ M
    exact done l _ m s h₂ tk (by simpa using hJ) F₂ M
theorem For_str {prog : Program} {w : World} {A : Around} {s : Shared} {env : Env} {g : Heap} {E : Value → Shared → Prop} {Q : Flow → Shared → Prop} {x : Str} {px pos : Pos} {iter : PySem.Expr} {body : List Stmt} {xs : Str} {m : Str → Option Value}
    (hA : A.handled = none) (hx : env.kindOf x = some .local)
    (hp : (env.scope.kind == .class || (env.scope.kind == .module && env.locals != env.globals)) = false)
    (J : Addr → Nat → (Str → Option Value) → Shared → Prop)
    (h : wpAny (model prog w) A (eval iter env) (fun xv s₁ => ∃ t, xv = .str xs t ∧ Fr g env.locals s₁.heap m ∧
      ∀ it h', s₁.heap.get? it = none → Mod [] s₁.heap h' → J it 0 m { s₁ with heap := h' }) E s)
    (turn : ∀ it i c u m s h₂ tk, it ≠ env.locals → xs.cps[i]? = some c → J it i m s → Fr g env.locals h₂ (fun y => if y = x then some (.str ⟨#[c]⟩ u) else m y) → Mod [env.locals, it] s.heap h₂ → 
      wpAny (model prog w) A (execs body env) (fun f s₃ => match f with
        | .next | .cont => Back (∃ m', Fr g env.locals s₃.heap m' ∧ J it (i + 1) m' s₃) [it] h₂ s₃.heap
        | .brk => Q .next s₃
        | .ret v => Q (.ret v) s₃) E { s with heap := h₂, toks := tk })
    (done : ∀ it m s h₂ tk, J it xs.cps.size m s → Fr g env.locals h₂ m → Mod [it] s.heap h₂ → Q .next { s with heap := h₂, toks := tk })
    (hs : ∀ x, foldedSetIterable iter env x = pure x := by intro _; rfl)
    (hE : PassesOwn (model prog w) A env E := by passes_own) :
    wpAny (model prog w) A (exec (.For (.Name x px) iter body [] pos) env) Q E s := by
  refine wpAny_For (wpAny_mono h (fun xv s₁ h₁ => ?_) fun _ _ e => e) hs
  obtain ⟨t, rfl, F, hJ⟩ := h₁
  refine wpAny_pyIter_str fun o St W hst => ?_
  have nI : s₁.heap.get? s₁.heap.objs.size = none := Heap.get?_none_of_le (Nat.le_refl _)
  have up : ∀ b o', s₁.heap.get? b = some o' → (s₁.heap.push o).get? b = some o' := fun b o e => Heap.get?_push_of_some _ e
  have hLI : env.locals ≠ s₁.heap.objs.size := Nat.ne_of_lt F.ns.lt
  refine forLoopW (R := fun r s' => match r with | .ok f => Q f s' | .error e => cameBackBy (model prog w) A env E e s') (W A hA) hx hp (g := g) (m := m) ?_ ?_ (J s₁.heap.objs.size) (F.keeps up) hst (hJ _ _ nI (fun b o _ e => up b o e)) ?_ ?_
  · intro hm
    exact hLI (List.mem_singleton.mp hm)
  · intro b hb
    rw [List.mem_singleton.mp hb]
    exact next_is_new F
  · intro i v m s h₂ tk hi hP hJ F₂ M
    refine wpAny_passesOwn hE ?_
    obtain ⟨c, u, hc, rfl⟩ := hP
    exact turn _ i c u m s h₂ tk (Ne.symm hLI) hc hJ F₂ M
  · intro m s h₂ tk hJ F₂ M
    exact done _ m s h₂ tk hJ F₂ M
theorem For_tup {prog : Program} {w : World} {A : Around} {s : Shared} {env : Env} {E : Value → Shared → Prop} {Q : Flow → Shared → Prop} {elts : List PySem.Expr} {x1 : Nat} {px pos : Pos} {iter : PySem.Expr} {body : List Stmt} {vs : List Value}
    (hA : A.handled = none) (J : Addr → Addr → Nat → Shared → Prop) (hv : ∀ (i : Nat) v, vs[i]? = some v → ∃ T, v = .ref T)
    (h : wpAny (model prog w) A (eval iter env) (fun xv s₁ => ∃ l, xv = .ref l ∧ s₁.heap.IsList l vs.toArray ∧
      ∀ it h', s₁.heap.get? it = none → h'.IsListIter it l 0 → Mod [] s₁.heap h' → J l it 0 { s₁ with heap := h' }) E s)
    (turn : ∀ l it i T s h₁ tk, l ≠ it → vs[i]? = some (.ref T) → J l it i s → Mod [it] s.heap h₁ → h₁.IsListIter it l (i + 1) → 
      wpAny (model prog w) A (assign (.Tuple elts x1 px) env (.ref T)) (fun _ s₂ => wpAny (model prog w) A (execs body env) (fun f s₃ => match f with
        | .next | .cont => Back (J l it (i + 1) s₃) [it, l] h₁ s₃.heap
        | .brk => Q .next s₃
        | .ret v => Q (.ret v) s₃) E s₂) E { s with heap := h₁, toks := tk })
    (done : ∀ l it s h₂ tk, J l it vs.length s → Mod [it] s.heap h₂ → Q .next { s with heap := h₂, toks := tk })
    (hs : ∀ x, foldedSetIterable iter env x = pure x := by intro _; rfl)
    (hE : PassesOwn (model prog w) A env E := by passes_own) :
    wpAny (model prog w) A (exec (.For (.Tuple elts x1 px) iter body [] pos) env) Q E s := by
  refine wpAny_For (wpAny_mono h (fun xv s₁ h₁ => ?_) fun _ _ e => e) hs
  obtain ⟨l, rfl, hl, hJ⟩ := h₁
  refine wpAny_pyIter_list hl ?_
  have hlt : l < s₁.heap.objs.size := by obtain ⟨_, e, _⟩ := hl; exact Heap.lt_size e
  have nI : s₁.heap.get? s₁.heap.objs.size = none := Heap.get?_none_of_le (Nat.le_refl _)
  have up : ∀ b o, s₁.heap.get? b = some o → (s₁.heap.push { cls := .type "list_iterator", data := .fields #[.ref l, .int 0 0] }).get? b = some o := fun b o e => Heap.get?_push_of_some _ e
  have hit : (s₁.heap.push { cls := .type "list_iterator", data := .fields #[.ref l, .int 0 0] }).IsListIter s₁.heap.objs.size l 0 := ⟨_, Heap.get?_push_size _ rfl, rfl, rfl⟩
  have hne : l ≠ s₁.heap.objs.size := Nat.ne_of_lt hlt
  refine codeAny_forLoop_any (R := fun r s' => match r with | .ok f => Q f s' | .error e => cameBackBy (model prog w) A env E e s')
    (fun k s' => ∃ i, s'.heap.IsListIter s₁.heap.objs.size l i ∧ s'.heap.IsList l vs.toArray ∧ J l s₁.heap.objs.size i s' ∧ i ≤ vs.length ∧ k = vs.length + 1 - i) ?_ (vs.length + 1) ⟨0, hit, hl.push _, hJ _ _ nI hit (fun b o _ e => up b o e), Nat.zero_le _, rfl⟩
  rintro k s' ⟨i, hit', hl', hJ', hi, rfl⟩
  by_cases hlt' : i < vs.length
  · obtain ⟨T, hT⟩ := hv i _ (List.getElem?_eq_getElem hlt')
    have hx : vs.toArray[i]? = some (.ref T) := by rw [← hT]; simp [hlt']
    refine wpAny_pyNext_list_item hit' hl' hx fun h₁ hit₁ hs₁ => ?_
    refine wpAny_letOwnedTupleGo_listiter hit₁ ?_
    have M1 : Mod [s₁.heap.objs.size] s'.heap h₁ := fun b o hb e => hs₁.extBut b o (fun q => hb (by rw [q]; exact .head _)) e
    have hl₁ : h₁.IsList l vs.toArray := hl'.extBut hs₁.extBut hne
    have fin := turn l _ i T s' h₁ s'.toks hne (by simpa using hx) hJ' M1 hit₁
    refine wpAny_mono fin (fun _ s₂ h₂ => wpAny_mono h₂ (fun f s₃ h₃ => ?_) fun e s' z => hE e s' z) fun e s' z => hE e s' z
    cases f with
    | ret v => exact h₃
    | brk => exact h₃
    | next =>
      obtain ⟨hJ₃, hk⟩ := h₃
      exact ⟨vs.length + 1 - (i + 1), by omega, i + 1, hit₁.at (fun o e => hk _ (.head _) o e), hl₁.at (fun o e => hk _ (.tail _ (.head _)) o e), hJ₃, hlt', rfl⟩
    | cont =>
      obtain ⟨hJ₃, hk⟩ := h₃
      exact ⟨vs.length + 1 - (i + 1), by omega, i + 1, hit₁.at (fun o e => hk _ (.head _) o e), hl₁.at (fun o e => hk _ (.tail _ (.head _)) o e), hJ₃, hlt', rfl⟩
  · have hin : i = vs.length := by omega
    subst hin
    refine wpAny_pyNext_list_end hA hit' hl' (by simp) fun h' he' => wpAny_execs_nil ?_
    exact done l _ s' h' s'.toks hJ' (fun b o hb e => he' b o (fun q => hb (by rw [q]; exact .head _)) e)
end
section
local macro_rules | `(tactic| walk_at "bf none") => `(tactic| skip)
local macro_rules | `(tactic| walk_at "bf none") => `(tactic| skip)
local macro_rules | `(tactic| walk_at "bf none") => `(tactic| skip)
local macro_rules | `(tactic| walk_at "bf none") => `(tactic| skip)
theorem rebase {g h : Heap} {L : Addr} {m : Str → Option Value} {news : List (Addr × Obj)} (F : Fr g L h m) (N : News g L h news) :
    ∃ own, News g L h (news ++ own) ∧ OwnOff own (news.map (·.1)) ∧ (∀ h' m', Fr g L h' m' → News g L h' own → Mod (L :: news.map (·.1)) h h') ∧
      ∀ a, g.get? a = none → a ∉ L :: news.map (·.1) → (∀ p ∈ own, p.1 ≠ a) → h.get? a = none := by
  refine ⟨ownOf g ((List.range h.objs.size).filter fun b => decide (b ∉ L :: news.map (·.1))) h, ?_, ?_, ?_, ?_⟩
  · intro p hp
    rcases List.mem_append.mp hp with hp | hp
    · exact N p hp
    · refine news_ownOf (L := L) ?_ p hp
      intro z
      have := (List.mem_filter.mp z).2
      simp at this
  · intro p hp b hb e
    have z := (List.mem_filter.mp (ownOf_sub p hp)).2
    simp only [decide_eq_true_eq] at z
    exact z (.tail _ (e ▸ hb))
  · intro h' m' F' N' b o hb e
    cases q : g.get? b with
    | some o' =>
      have := F.keep b o' q
      rw [e] at this; cases this
      exact F'.keep b o q
    | none => exact (N' _ (mem_ownOf (List.mem_filter.mpr ⟨List.mem_range.mpr (Heap.lt_size e), by simpa using hb⟩) q e)).1
  · intro a ga hb ho
    cases q : h.get? a with
    | none => rfl
    | some o => exact absurd rfl (ho _ (mem_ownOf (List.mem_filter.mpr ⟨List.mem_range.mpr (Heap.lt_size q), by simpa using hb⟩) ga q))
abbrev RW := Nat × (Nat → Bool)
inductive Rows (K : Addr → Obj → Prop) (n : Nat) : List Value → List RW → Prop
  | nil : Rows K n [] []
  | cons {t r : Addr} {cnt : Nat} {p : Nat → Bool} {tk : Tok} {vs ts : List Value} {k : Nat} {rows : List RW} (ht : K t (tupO [.ref r, .int cnt tk])) (hr : K r (listO vs k)) (hv : IntsAre vs ((List.range n).map fun q => if p q then (1 : Int) else 0)) (h : Rows K n ts rows) : Rows K n (.ref t :: ts) ((cnt, p) :: rows)
theorem Rows.mono {K K' : Addr → Obj → Prop} {n : Nat} {ts : List Value} {rows : List RW} (x : Rows K n ts rows) (k : ∀ a o, K a o → K' a o) : Rows K' n ts rows := by
  induction x with
  | nil => exact .nil
  | cons ht hr hv _ ih => exact .cons (k _ _ ht) (k _ _ hr) hv ih
theorem Rows.len {K : Addr → Obj → Prop} {n : Nat} {ts : List Value} {rows : List RW} (x : Rows K n ts rows) : ts.length = rows.length := by
  induction x with
  | nil => rfl
  | cons ht hr hv _ ih => simp [ih]
theorem Rows.append {K : Addr → Obj → Prop} {n : Nat} {ts ts' : List Value} {rows rows' : List RW} (x : Rows K n ts rows) (y : Rows K n ts' rows') : Rows K n (ts ++ ts') (rows ++ rows') := by
  induction x with
  | nil => exact y
  | cons ht hr hv _ ih => exact .cons ht hr hv ih
theorem Rows.tail {K : Addr → Obj → Prop} {n : Nat} {ts : List Value} {rows : List RW} (x : Rows K n ts rows) : Rows K n ts.tail rows.tail := by
  cases x with
  | nil => exact .nil
  | cons ht hr hv h => exact h
theorem Rows.split {K : Addr → Obj → Prop} {n : Nat} : ∀ {ts : List Value} {rows rows' : List RW}, Rows K n ts (rows ++ rows') → ∃ a b, ts = a ++ b ∧ Rows K n a rows ∧ Rows K n b rows'
  | ts, [], rows', x => ⟨[], ts, rfl, .nil, x⟩
  | _, _ :: rows, rows', .cons ht hr hv h => let ⟨a, b, e, p, q⟩ := Rows.split h; ⟨_ :: a, b, by rw [e]; rfl, .cons ht hr hv p, q⟩
def Kn (g : Heap) (F : List Addr) (h : Heap) (a : Addr) (o : Obj) : Prop := h.get? a = some o ∧ g.get? a = none ∧ a ∉ F
def Chn (g : Heap) (F : List Addr) (h : Heap) (lc : Addr) (n : Nat) (rows : List RW) : Prop := ∃ ts cap, Kn g F h lc (listO ts cap) ∧ Rows (Kn g F h) n ts rows
theorem Chn.mono {g h h' : Heap} {F F' : List Addr} {lc : Addr} {n : Nat} {rows : List RW} (x : Chn g F h lc n rows) (k : ∀ a o, Kn g F h a o → Kn g F' h' a o) : Chn g F' h' lc n rows :=
  let ⟨ts, cap, a, b⟩ := x; ⟨ts, cap, k _ _ a, b.mono k⟩
abbrev ownF (e de Lq : Addr) (bs : List BH) : List Addr := 418 :: e :: de :: Lq :: feet bs
structure LS (w : World) (g : Heap) (X : List Addr) (r : Option Int) (D : BD) (e de Lq : Addr) (total : Int) (bs : List BH) (lc : Addr) (rows : List RW) (s : Shared) : Prop where
  on : On w g s.heap
  x0 : ∀ a ∈ X, g.get? a = none ∧ ∃ o, s.heap.get? a = some o
  fil : Fil r D g s.heap e de Lq total bs
  tab : Tab g s.heap
  ap : ∀ a ∈ ownF e de Lq bs, a ∉ X
  chn : Chn g (X ++ ownF e de Lq bs) s.heap lc D.bits rows
theorem Fil.there {r : Option Int} {D : BD} {h₀ h : Heap} {e de L : Addr} {added : Int} {bs : List BH} (Z : Fil r D h₀ h e de L added bs) : ∀ a ∈ e :: de :: L :: feet bs, ∃ o, At h₀ h a o := by
  obtain ⟨t1, t2, t3, t4, n, a1, a2, a3, a4, _⟩ := Z
  intro a ha
  rcases List.mem_cons.mp ha with rfl | ha
  · exact ⟨_, a1⟩
  rcases List.mem_cons.mp ha with rfl | ha
  · exact ⟨_, a2⟩
  rcases List.mem_cons.mp ha with rfl | ha
  · exact ⟨_, a3⟩
  · exact feet_at a4 a ha
theorem LS.there {w : World} {g : Heap} {X : List Addr} {r : Option Int} {D : BD} {e de Lq : Addr} {total : Int} {bs : List BH} {lc : Addr} {rows : List RW} {s : Shared} (Z : LS w g X r D e de Lq total bs lc rows s) : ∀ a ∈ ownF e de Lq bs, ∃ o, At g s.heap a o := by
  intro a ha
  rcases List.mem_cons.mp ha with rfl | ha
  · obtain ⟨ps, q, _⟩ := Z.tab; exact ⟨_, q⟩
  · exact Z.fil.there a ha
theorem LS.step {w : World} {g : Heap} {X : List Addr} {r : Option Int} {D : BD} {e de Lq : Addr} {total : Int} {bs : List BH} {lc : Addr} {rows : List RW} {s s' : Shared} (Z : LS w g X r D e de Lq total bs lc rows s) (M : Mod X s.heap s'.heap) (k : ∀ a ∈ X, ∃ o, s'.heap.get? a = some o) : LS w g X r D e de Lq total bs lc rows s' where
  on := Z.on.mod M fun a ha => (Z.x0 a ha).1
  x0 := fun a ha => ⟨(Z.x0 a ha).1, k a ha⟩
  fil := Z.fil.modW M (Z.ap _ (.tail _ (.head _))) (Z.ap _ (.tail _ (.tail _ (.head _)))) (Z.ap _ (.tail _ (.tail _ (.tail _ (.head _))))) (fun a ha => Z.ap _ (.tail _ (.tail _ (.tail _ (.tail _ ha)))))
  tab := Z.tab.mod M (Z.ap _ (.head _))
  ap := Z.ap
  chn := Z.chn.mono fun a o ⟨p, q, t⟩ => ⟨M _ _ (fun z => t (List.mem_append_left _ z)) p, q, t⟩
theorem LS.call {w : World} {g : Heap} {X : List Addr} {r : Option Int} {D : BD} {e de Lq : Addr} {total total' : Int} {bs bs' : List BH} {lc : Addr} {rows : List RW} {s s' : Shared} {W : List Addr} (Z : LS w g X r D e de Lq total bs lc rows s) (M : Mod W s.heap s'.heap) (hW : ∀ a ∈ W, a ∈ ownF e de Lq bs)
    (T : Tab g s'.heap) (Fi : Fil r D g s'.heap e de Lq total' bs') (ow : Own s.heap bs bs') : LS w g X r D e de Lq total' bs' lc rows s' := by
  have old : ∀ a ∈ ownF e de Lq bs', a ∈ ownF e de Lq bs ∨ s.heap.get? a = none := fun a ha => by
    rcases List.mem_cons.mp ha with rfl | ha
    · exact .inl (.head _)
    rcases List.mem_cons.mp ha with rfl | ha
    · exact .inl (.tail _ (.head _))
    rcases List.mem_cons.mp ha with rfl | ha
    · exact .inl (.tail _ (.tail _ (.head _)))
    rcases List.mem_cons.mp ha with rfl | ha
    · exact .inl (.tail _ (.tail _ (.tail _ (.head _))))
    · exact (ow a ha).imp (fun z => .tail _ (.tail _ (.tail _ (.tail _ z)))) id
  refine ⟨Z.on.mod M fun a ha => ?_, fun a ha => ⟨(Z.x0 a ha).1, ?_⟩, Fi, T, fun a ha z => ?_, Z.chn.mono fun a o ⟨p, q, t⟩ => ⟨M _ _ (fun z => t (List.mem_append_right _ (hW a z))) p, q, fun z => ?_⟩⟩
  · obtain ⟨o, q⟩ := Z.there a (hW a ha); exact q.2
  · obtain ⟨o, q⟩ := (Z.x0 a ha).2
    exact ⟨o, M _ _ (fun z => Z.ap a (hW a z) ha) q⟩
  · rcases old a ha with q | q
    · exact Z.ap a q z
    · obtain ⟨o, q'⟩ := (Z.x0 a z).2
      rw [q] at q'; cases q'
  · rcases List.mem_append.mp z with z | z
    · exact t (List.mem_append_left _ z)
    · rcases old a z with q | q
      · exact t (List.mem_append_right _ q)
      · rw [q] at p; cases p
theorem LS.chain {w : World} {g : Heap} {X : List Addr} {r : Option Int} {D : BD} {e de Lq : Addr} {total : Int} {bs : List BH} {lc lc' : Addr} {rows rows' : List RW} {s s' : Shared} (Z : LS w g X r D e de Lq total bs lc rows s) (M : Mod X s.heap s'.heap) (k : ∀ a ∈ X, ∃ o, s'.heap.get? a = some o)
    (C : Chn g (X ++ ownF e de Lq bs) s'.heap lc' D.bits rows') : LS w g X r D e de Lq total bs lc' rows' s' := { Z.step M k with chn := C }
theorem LS.new {w : World} {g : Heap} {X : List Addr} {r : Option Int} {D : BD} {e de Lq : Addr} {total : Int} {bs : List BH} {lc : Addr} {rows : List RW} {s : Shared} (Z : LS w g X r D e de Lq total bs lc rows s) {h' : Heap} {a : Addr} {o : Obj} (n : s.heap.get? a = none) (q : h'.get? a = some o) : Kn g (X ++ ownF e de Lq bs) h' a o := by
  refine ⟨q, ?_, fun z => ?_⟩
  · cases y : g.get? a with
    | none => rfl
    | some o' => have := Z.on.stays a o' y; rw [n] at this; cases this
  · rcases List.mem_append.mp z with z | z
    · obtain ⟨o', q'⟩ := (Z.x0 a z).2; rw [n] at q'; cases q'
    · obtain ⟨o', q'⟩ := Z.there a z; have := q'.1; rw [n] at this; cases this
theorem Kn.mod {g h h' : Heap} {X Y : List Addr} {a : Addr} {o : Obj} (x : Kn g (X ++ Y) h a o) (M : Mod X h h') : Kn g (X ++ Y) h' a o := ⟨M _ _ (fun z => x.2.2 (List.mem_append_left _ z)) x.1, x.2⟩
theorem Rows.get {K : Addr → Obj → Prop} {n : Nat} {ts : List Value} {rows : List RW} (x : Rows K n ts rows) : ∀ {i : Nat} {v : Value}, ts[i]? = some v →
    ∃ T r cnt p tk vs k, v = .ref T ∧ rows[i]? = some (cnt, p) ∧ K T (tupO [.ref r, .int (cnt : Nat) tk]) ∧ K r (listO vs k) ∧ IntsAre vs ((List.range n).map fun q => if p q then (1 : Int) else 0) := by
  induction x with
  | nil => intro i v e; simp at e
  | cons ht hr hv h ih =>
    intro i v e
    cases i with
    | zero => cases e; exact ⟨_, _, _, _, _, _, _, rfl, rfl, ht, hr, hv⟩
    | succ i => exact ih (by simpa using e)
theorem fr_it {g h h' : Heap} {L it : Addr} {m : Str → Option Value} (F : Fr g L h m) (M : Mod [it] h h') (n : it ≠ L) (n' : g.get? it = none) : Fr g L h' m :=
  fr_mod F M (fun z => n (List.mem_singleton.mp z).symm) (fun a ha => (List.mem_singleton.mp ha) ▸ n')
theorem g_new {g h : Heap} {it : Addr} (k : ∀ b o, g.get? b = some o → h.get? b = some o) (n : h.get? it = none) : g.get? it = none := by
  cases q : g.get? it with
  | none => rfl
  | some o => rw [k _ _ q] at n; cases n
theorem named {g h : Heap} {L : Addr} {m : Str → Option Value} (F : Fr g L h m) : ∃ m0, m0 = m ∧ Fr g L h m0 := ⟨m, rfl, F⟩
theorem pick_from1 (vs : List Value) : (slicePick vs.toArray (some 1) none none).toList = vs.tail := by
  have e : sliceBounds (some 1) none none vs.toArray.size = (((min (1 : Int).toNat vs.toArray.size : Nat) : Int), ((vs.toArray.size : Nat) : Int), 1) := by
    simp only [sliceBounds, Option.getD_none, show (1 : Int) > 0 by decide, if_true, if_neg (show ¬ ((1 : Int) < 0) by omega)]
    congr 1
    omega
  rw [kmk_pick_nat _ e]
  show ((vs.drop (min (1 : Int).toNat vs.toArray.size)).take (vs.toArray.size - min (1 : Int).toNat vs.toArray.size)) = _
  rw [List.size_toArray, kmk_drop_min, List.take_of_length_le (by rw [List.length_drop]; omega)]
  exact List.drop_one
theorem pick_upto (vs : List Value) {y : Int} (h : 0 ≤ y) : (slicePick vs.toArray none (some y) none).toList = vs.take y.toNat := by
  have e : sliceBounds none (some y) none vs.toArray.size = (((0 : Nat) : Int), ((min y.toNat vs.toArray.size : Nat) : Int), 1) := by
    simp only [sliceBounds, Option.getD_none, show (1 : Int) > 0 by decide, if_true, if_neg (show ¬ (y < 0) by omega)]
    congr 1
    congr 1
    omega
  rw [kmk_pick_nat _ e]
  show ((vs.drop 0).take (min y.toNat vs.toArray.size - 0)) = _
  rw [List.drop_zero, Nat.sub_zero, List.size_toArray, kmk_take_min]
section
variable {prog : Program} {w : World} {A : Around} {E : Value → Shared → Prop} {h₀ hh : Heap} {L l : Addr} {m : Str → Option Value} {news : List (Addr × Obj)} {value slice : PySem.Expr} {its : Array Value} {vl vu : Value} {lo hi : Option Int} {zs : List Value} {gs : Array GenState} {dr : Nat} {tk : Tok} {Q : Value → Shared → Prop}
theorem slice_lit2 {s : Shared} {hh : Heap} (e0 : s.heap = hh.push { cls := .type "slice", data := .fields #[vl, vu, .none] }) (F : Fr h₀ L hh m) (N : News h₀ L hh news) (hl : hh.IsList l its) (pl : IsPart vl lo) (pu : IsPart vu hi) (e : (slicePick its lo hi none).toList = zs)
    (h : ∀ D h', Fr h₀ L h' m → News h₀ L h' ((D, listOf zs.toArray 0) :: news) → (∀ p ∈ news, p.1 < D) → Q (.ref D) { s with heap := h' })
    (hs : subscripted slice false (.ref l) (.ref hh.objs.size) = operate [.ref hh.objs.size, .ref l] (getItem (.ref l) (.ref hh.objs.size))) (ht : ∀ r, letTemporaryGo value (.ref l) r = pure ()) (hz : its.size ≤ sizeLine) :
    wpAny (model prog w) A (subscriptTail value slice (.ref l) (.ref hh.objs.size)) Q E s := by
  obtain ⟨h0, a, b, c, d⟩ := s
  dsimp only at e0
  subst e0
  exact kmk_slice_lit (s := ⟨hh, a, b, c, d⟩) F N hl pl pu e h hs ht hz
end
theorem slice_ints2 {prog : Program} {w : World} {A : Around} {E : Value → Shared → Prop} {h₀ hh : Heap} {L l : Addr} {m : Str → Option Value} {news : List (Addr × Obj)} {value slice : PySem.Expr} {vs : List Value} {ns : List Int} {vl vu : Value} {lo hi : Option Int} {Q : Value → Shared → Prop} {s : Shared} {ms : List Int} {c : Nat} (e0 : s.heap = hh.push { cls := .type "slice", data := .fields #[vl, vu, .none] }) (F : Fr h₀ L hh m) (N : News h₀ L hh news) (hl : hh.IsList l vs.toArray) (pl : IsPart vl lo) (pu : IsPart vu hi) (hi' : IntsAre vs ns) (hm : IntsAre (slicePick vs.toArray lo hi none).toList ms) (hc : ms.length = c)
    (h : ∀ D ws h', Fr h₀ L h' m → News h₀ L h' ((D, listOf (List.toArray ws) 0) :: news) → (∀ p ∈ news, p.1 < D) → IntsAre ws ms → ms.length = c → ms.length ≤ ns.length → Q (.ref D) { s with heap := h' })
    (hs : subscripted slice false (.ref l) (.ref hh.objs.size) = operate [.ref hh.objs.size, .ref l] (getItem (.ref l) (.ref hh.objs.size))) (ht : ∀ r, letTemporaryGo value (.ref l) r = pure ()) (hz : vs.toArray.size ≤ sizeLine) :
    wpAny (model prog w) A (subscriptTail value slice (.ref l) (.ref hh.objs.size)) Q E s := by
  obtain ⟨h0, a, b, c, d⟩ := s
  dsimp only at e0
  subst e0
  exact kmk_slice_ints (s := ⟨hh, a, b, c, d⟩) F N hl pl pu hi' hm hc h hs ht hz
theorem Rows.last {K : Addr → Obj → Prop} {n : Nat} {ts : List Value} {rows0 : List RW} {cnt : Nat} {p : Nat → Bool} (x : Rows K n ts (rows0 ++ [(cnt, p)])) :
    ∃ ts0 Tl rl tkc vs k, ts = ts0 ++ [.ref Tl] ∧ ts0.length = rows0.length ∧ Rows K n ts0 rows0 ∧ K Tl (tupO [.ref rl, .int (cnt : Nat) tkc]) ∧ K rl (listO vs k) ∧ IntsAre vs ((List.range n).map fun q => if p q then (1 : Int) else 0) := by
  obtain ⟨a, b, e, p, q⟩ := x.split
  cases q with
  | cons ht hr hv h =>
    cases h
    exact ⟨a, _, _, _, _, _, e, p.len, p, ht, hr, hv⟩
theorem item_last {prog : Program} {w : World} {A : Around} {E : Value → Shared → Prop} {s : Shared} {value slice : PySem.Expr} {l : Addr} {ts0 : List Value} {x : Value} {k : Int} {u : Tok} {Q : Value → Shared → Prop}
    (hl : s.heap.IsList l (ts0 ++ [x]).toArray) (hk : k = (ts0.length : Int)) (hsz : ts0.length < 1000) (h : Q x s)
    (hs : subscripted slice false (.ref l) (.int k u) = operate [.ref l, .int k u] (getItem (.ref l) (.int k u)) := by with_unfolding_all rfl) :
    wpAny (model prog w) A (subscriptTail value slice (.ref l) (.int k u)) Q E s := by
  subst hk
  exact tail_any hl.typeIs slot_list_getitem.lookup (wpAny_getItem_list hl (by omega) (by omega) (by simp) h) hs
end
section
local macro_rules | `(tactic| walk_at "bf none") => `(tactic| skip)
local macro_rules | `(tactic| walk_at "bf none") => `(tactic| skip)
local macro_rules | `(tactic| walk_at "bf none") => `(tactic| skip)
local macro_rules | `(tactic| walk_at "bf none") => `(tactic| skip)
local macro_rules | `(tactic| walk_at "bf none") => `(tactic| skip)
theorem forLoopX {prog : Program} {w : World} {A : Around} {s : Shared} {env : Env} {g : Heap} {R : Result → Shared → Prop} {x : Str} {px : Pos} {body : List Stmt} {I : Addr} {fp wr : List Addr} {n : Nat} {P : Nat → Value → Prop} {St : Nat → Heap → Prop} {m : Str → Option Value}
    (W : Walks prog w A I fp wr n P St) (hx : env.kindOf x = some .local)
    (hp : (env.scope.kind == .class || (env.scope.kind == .module && env.locals != env.globals)) = false)
    (hLf : env.locals ∉ fp) (hwr : ∀ b ∈ wr, g.get? b = none)
    (J : Nat → (Str → Option Value) → Shared → Prop) (F : Fr g env.locals s.heap m) (hst : St 0 s.heap) (h0 : J 0 m s)
    (turn : ∀ i v m s h₂ tk, i < n → P i v → J i m s → Fr g env.locals h₂ (fun y => if y = x then some v else m y) → Mod (env.locals :: wr) s.heap h₂ → St (i + 1) h₂ →
      wpAny (model prog w) A (execs body env) (fun f s₃ => match f with
        | .next | .cont => Back (∃ m', Fr g env.locals s₃.heap m' ∧ J (i + 1) m' s₃) fp h₂ s₃.heap
        | .brk => R (.ok .next) s₃
        | .ret v => R (.ok (.ret v)) s₃) (notedBy (model prog w) A env fun e s' => R (.error e) s') { s with heap := h₂, toks := tk })
    (done : ∀ m s h₂ tk, J n m s → Fr g env.locals h₂ m → Mod wr s.heap h₂ → R (.ok .next) { s with heap := h₂, toks := tk }) :
    codeAny (model prog w) A (.forLoop (.Name x px) (.ref I) body [] env) R s := by
  have hLw : env.locals ∉ wr := fun h => hLf (W.sub _ h)
  have old : ∀ b o, g.get? b = some o → b ∉ wr := fun b o e hb => by rw [hwr b hb] at e; cases e
  refine codeAny_forLoop (fun k s' => ∃ m' i, St i s'.heap ∧ Fr g env.locals s'.heap m' ∧ J i m' s' ∧ i ≤ n ∧ k = n + 1 - i) ?_ (n + 1) ⟨m, 0, hst, F, h0, Nat.zero_le _, rfl⟩
  rintro k s' ⟨m', i, hst', F', hJ, hi, rfl⟩
  have next : ∀ h₁ : Heap, (∀ b o, b ∉ wr → s'.heap.get? b = some o → h₁.get? b = some o) → Fr g env.locals h₁ m' := fun h₁ hk₁ =>
    ⟨F'.ns.at' fun o e => hk₁ _ o hLw e, fun b o e => hk₁ b o (old b o e) (F'.keep b o e), F'.above⟩
  by_cases hlt : i < n
  · refine W.item i _ _ _ hlt hst' fun v h₁ tk₁ hP hst₁ hk₁ => ?_
    have F₁ := next h₁ hk₁
    refine wpAny_assign_Name (wpAny_storeName_local hx F₁.ns (fun h₂ hn₂ hs₂ => ?_) hp)
    have F₂ := F₁.set hn₂ hs₂
    have hst₂ : St (i + 1) h₂ := W.frame _ _ _ hst₁ fun b hb o e => (hs₂.2 b fun q => hLf (q ▸ hb)).trans e
    refine wpAny_mono (turn i v m' s' h₂ (tk₁ + 1) hlt hP hJ F₂ (fun b o hb e => (hs₂.2 b fun q => hb (q ▸ .head _)).trans (hk₁ b o (fun q => hb (.tail _ q)) e)) hst₂) (fun f s₃ h₃ => ?_) fun _ _ e => e
    cases f with
    | ret v => exact h₃
    | brk => exact h₃
    | cont =>
      obtain ⟨⟨m₂, F₃, hJ₃⟩, hk⟩ := h₃
      exact ⟨n + 1 - (i + 1), by omega, m₂, i + 1, W.frame _ _ _ hst₂ hk, F₃, hJ₃, hlt, rfl⟩
    | next =>
      obtain ⟨⟨m₂, F₃, hJ₃⟩, hk⟩ := h₃
      exact ⟨n + 1 - (i + 1), by omega, m₂, i + 1, W.frame _ _ _ hst₂ hk, F₃, hJ₃, hlt, rfl⟩
  · have hin : i = n := by omega
    subst hin
    refine W.done _ _ _ hst' fun h₁ tk₁ hk₁ => wpAny_execs_nil ?_
    exact done m' s' h₁ tk₁ hJ (next h₁ hk₁) hk₁
theorem For_listX {prog : Program} {w : World} {A : Around} {s : Shared} {env : Env} {g : Heap} {E : Value → Shared → Prop} {Q : Flow → Shared → Prop} {x : Str} {px pos : Pos} {iter : PySem.Expr} {body : List Stmt} {vs : List Value} {m : Str → Option Value}
    (hA : A.handled = none) (hx : env.kindOf x = some .local)
    (hp : (env.scope.kind == .class || (env.scope.kind == .module && env.locals != env.globals)) = false)
    (J : Addr → Addr → Nat → (Str → Option Value) → Shared → Prop)
    (h : wpAny (model prog w) A (eval iter env) (fun xv s₁ => ∃ l, xv = .ref l ∧ s₁.heap.IsList l vs.toArray ∧ l ≠ env.locals ∧ Fr g env.locals s₁.heap m ∧
      ∀ it h', s₁.heap.get? it = none → h'.IsListIter it l 0 → Mod [] s₁.heap h' → J l it 0 m { s₁ with heap := h' }) E s)
    (turn : ∀ l it i v m s h₂ tk, l ≠ it → it ≠ env.locals → vs[i]? = some v → J l it i m s → Fr g env.locals h₂ (fun y => if y = x then some v else m y) → Mod [env.locals, it] s.heap h₂ → (∃ o, h₂.get? it = some o) →
      wpAny (model prog w) A (execs body env) (fun f s₃ => match f with
        | .next | .cont => Back (∃ m', Fr g env.locals s₃.heap m' ∧ J l it (i + 1) m' s₃) [it, l] h₂ s₃.heap
        | .brk => Q .next s₃
        | .ret v => Q (.ret v) s₃) E { s with heap := h₂, toks := tk })
    (done : ∀ l it m s h₂ tk, J l it vs.length m s → Fr g env.locals h₂ m → Mod [it] s.heap h₂ → Q .next { s with heap := h₂, toks := tk })
    (hs : ∀ x, foldedSetIterable iter env x = pure x := by intro _; rfl)
    (hE : PassesOwn (model prog w) A env E := by passes_own) :
    wpAny (model prog w) A (exec (.For (.Name x px) iter body [] pos) env) Q E s := by
  refine wpAny_For (wpAny_mono h (fun xv s₁ h₁ => ?_) fun _ _ e => e) hs
  obtain ⟨l, rfl, hl, hne, F, hJ⟩ := h₁
  refine wpAny_pyIter_list hl ?_
  have hlt : l < s₁.heap.objs.size := by obtain ⟨_, e, _⟩ := hl; exact Heap.lt_size e
  have nI : s₁.heap.get? s₁.heap.objs.size = none := Heap.get?_none_of_le (Nat.le_refl _)
  have up : ∀ b o, s₁.heap.get? b = some o → (s₁.heap.push { cls := .type "list_iterator", data := .fields #[.ref l, .int 0 0] }).get? b = some o := fun b o e => Heap.get?_push_of_some _ e
  have hit : (s₁.heap.push { cls := .type "list_iterator", data := .fields #[.ref l, .int 0 0] }).IsListIter s₁.heap.objs.size l 0 := ⟨_, Heap.get?_push_size _ rfl, rfl, rfl⟩
  have hLI : env.locals ≠ s₁.heap.objs.size := Nat.ne_of_lt F.ns.lt
  refine forLoopX (R := fun r s' => match r with | .ok f => Q f s' | .error e => cameBackBy (model prog w) A env E e s') (Walks.list hA s₁.heap.objs.size l (Nat.ne_of_lt hlt) vs.toArray) hx hp (g := g) (m := m) ?_ ?_ (J l s₁.heap.objs.size) (F.keeps up) ⟨hit, hl.push _⟩ (hJ _ _ nI hit (fun b o _ e => up b o e)) ?_ ?_
  · intro hm
    rcases List.mem_cons.mp hm with e | hm
    · exact hLI e
    · exact hne (List.mem_singleton.mp hm).symm
  · intro b hb
    rw [List.mem_singleton.mp hb]
    exact next_is_new F
  · intro i v m s h₂ tk hi hP hJ F₂ M hs2
    refine wpAny_passesOwn hE ?_
    exact turn l _ i v m s h₂ tk (Nat.ne_of_lt hlt) (Ne.symm hLI) (by simpa using hP) hJ F₂ M (by obtain ⟨⟨o, q, _⟩, _⟩ := hs2; exact ⟨o, q⟩)
  · intro m s h₂ tk hJ F₂ M
    exact done l _ m s h₂ tk (by simpa using hJ) F₂ M
end
section
local macro_rules | `(tactic| walk_at "bf none") => `(tactic| skip)
local macro_rules | `(tactic| walk_at "bf none") => `(tactic| skip)
local macro_rules | `(tactic| walk_at "bf none") => `(tactic| skip)
local macro_rules | `(tactic| walk_at "bf none") => `(tactic| skip)
local macro_rules | `(tactic| walk_at "bf none") => `(tactic| skip)
local macro_rules | `(tactic| walk_at "bf none") => `(tactic| skip)
section
variable {w : World} {A : Around} {R : Result → Shared → Prop} {s : Shared} {h₀ : Heap} {D : BD} {e de L f : Addr} {added : Int} {hs : List Int} {key : Value} {bs : List BH} {r : Option Int}
theorem add_fil_t (O : On w h₀ s.heap) (hr : Room A 50) (ok : D.Ok) (Z : Fil r D h₀ s.heap e de L added bs) (hf : D.hf = .ref f) (ff : FnAt f h₀) (H : HF w h₀ f D.nh key hs) (hnh : D.nh ≤ hs.length) (TB : Tab h₀ s.heap) (hsz : bs.length < 900)
    (ret : ∀ bs1 bs' s', Aft (418 :: e :: L :: feet bs) s s' → Tab h₀ s'.heap → Fil r D h₀ s'.heap e de L (added + 1) bs' → Own s.heap bs bs' → Grow r D false s.heap bs bs1 → (∃ hne, bs' = putLast D hs bs1 hne) → R (.ok (.ret .none)) s') :
    codeAny (model PySem.Challenge.rw_sv0019_01.row.prog w) A (.call (.ref 431) ⟨[.ref e, key, .bool true], []⟩) R s := by
  cases r with
  | none => exact add_exp_true (q := 0) O hr ok Z hf ff H hnh TB hsz fun bs1 bs' s' a b c d _ x => ret bs1 bs' s' a b c d x.1 x.2
  | some q => exact add_rot_true O hr ok Z hf ff H hnh TB hsz fun bs1 bs' s' a b c d _ x => ret bs1 bs' s' a b c d x.1 x.2
theorem add_fil_f (O : On w h₀ s.heap) (hr : Room A 50) (ok : D.Ok) (Z : Fil r D h₀ s.heap e de L added bs) (hf : D.hf = .ref f) (ff : FnAt f h₀) (H : HF w h₀ f D.nh key hs) (hnh : D.nh ≤ hs.length) (TB : Tab h₀ s.heap) (hsz : bs.length < 900)
    (ret : ∀ bs1 bs' s', Aft (418 :: e :: L :: feet bs) s s' → Tab h₀ s'.heap → Fil r D h₀ s'.heap e de L (added + 1) bs' → Own s.heap bs bs' → (if bs.any (BH.has D hs) then bs' = bs else Grow r D false s.heap bs bs1 ∧ ∃ hne, bs' = putLast D hs bs1 hne) → R (.ok (.ret .none)) s') :
    codeAny (model PySem.Challenge.rw_sv0019_01.row.prog w) A (.call (.ref 431) ⟨[.ref e, key], []⟩) R s := by
  cases r with
  | none => exact add_exp_false (q := 0) O hr ok Z hf ff H hnh TB hsz fun bs1 bs' s' a b c d _ x => ret bs1 bs' s' a b c d x
  | some q => exact add_rot_false O hr ok Z hf ff H hnh TB hsz fun bs1 bs' s' a b c d _ x => ret bs1 bs' s' a b c d x
theorem check_fil (O : On w h₀ s.heap) (hr : Room A 50) (ok : D.Ok) (Z : Fil r D h₀ s.heap e de L added bs) (hf : D.hf = .ref f) (ff : FnAt f h₀) (H : HF w h₀ f D.nh key hs) (hnh : D.nh ≤ hs.length) (TB : Tab h₀ s.heap)
    (ret : ∀ s', Aft [418] s s' → Tab h₀ s'.heap → R (.ok (.ret (.bool (bs.any (BH.has D hs))))) s') :
    codeAny (model PySem.Challenge.rw_sv0019_01.row.prog w) A (.call (.ref 416) ⟨[.ref e, key], []⟩) R s := by
  cases r with
  | none => exact check_exp (q := 0) O hr ok Z hf ff H hnh TB ret
  | some q => exact check_rot O hr ok Z hf ff H hnh TB ret
theorem contains_fil (O : On w h₀ s.heap) (hr : Room A 51) (ok : D.Ok) (Z : Fil r D h₀ s.heap e de L added bs) (hf : D.hf = .ref f) (ff : FnAt f h₀) (H : HF w h₀ f D.nh key hs) (hnh : D.nh ≤ hs.length) (TB : Tab h₀ s.heap)
    (ret : ∀ s', Aft [418] s s' → Tab h₀ s'.heap → R (.ok (.ret (.bool (bs.any (BH.has D hs))))) s') :
    codeAny (model PySem.Challenge.rw_sv0019_01.row.prog w) A (.call (.ref 362) ⟨[.ref e, key], []⟩) R s := by
  cases r with
  | none => exact contains_exp (q := 0) O hr ok Z hf ff H hnh TB ret
  | some q => exact contains_rot O hr ok Z hf ff H hnh TB ret
theorem checkalt_fil {hl : Addr} (O : On w h₀ s.heap) (hr : Room A 20) (ok : D.Ok) (Z : Fil r D h₀ s.heap e de L added bs) (I : IsInts h₀ s.heap hl hs) (hnh : D.nh ≤ hs.length) (TB : Tab h₀ s.heap)
    (ret : ∀ s', Aft [418] s s' → Tab h₀ s'.heap → R (.ok (.ret (.bool (bs.any (BH.has D hs))))) s') :
    codeAny (model PySem.Challenge.rw_sv0019_01.row.prog w) A (.call (.ref 423) ⟨[.ref e, .ref hl], []⟩) R s := by
  cases r with
  | none => obtain ⟨t1, t2, t3, t4, n, a, b, c, d, _⟩ := Z; exact checkalt_exp (q := 0) (t4 := t1) O hr ok a b c d I hnh TB ret
  | some q => obtain ⟨t1, t2, t3, t4, n, a, b, c, d, _⟩ := Z; exact checkalt_rot O hr ok a b c d I hnh TB ret
abbrev pushAt (r : Option Int) : Addr := match r with | none => 409 | some _ => 520
theorem push_fil (O : On w h₀ s.heap) (hr : Room A 40) (ok : D.Ok) (Z : Fil r D h₀ s.heap e de L added bs) (hsz : bs.length < 900)
    (ret : ∀ bs' h' tk', Mod [L] s.heap h' → Fil r D h₀ h' e de L added bs' → Own s.heap bs bs' → Grow r D true s.heap bs bs' → R (.ok (.ret .none)) { s with heap := h', toks := tk' }) :
    codeAny (model PySem.Challenge.rw_sv0019_01.row.prog w) A (.call (.ref (pushAt r)) ⟨[.ref e], []⟩) R s := by
  cases r with
  | none => exact push_exp (q := 0) O hr ok Z hsz ret
  | some q => exact push_rot O hr ok Z hsz ret
variable {E : Value → Shared → Prop} {Q : Value → Shared → Prop} {b : Bool}
theorem fil_added (O : On w h₀ s.heap) (hr : Room A 6) (Z : Fil r D h₀ s.heap e de L added bs) (ret : ∀ t h' tk', Mod [] s.heap h' → Q (.int added t) { s with heap := h', toks := tk' }) :
    wpAny (model PySem.Challenge.rw_sv0019_01.row.prog w) A (getAttr (.ref e) (Str.ofString "elements_added") b) Q E s := by
  cases r with
  | none => obtain ⟨t1, t2, t3, t4, n, a, b, c, d, _⟩ := Z; exact prop_exp_added O hr a b (ret _)
  | some q => obtain ⟨t1, t2, t3, t4, n, a, b, c, d, _⟩ := Z; exact prop_rot_added O hr a b (ret _)
theorem fil_est (O : On w h₀ s.heap) (hr : Room A 6) (Z : Fil r D h₀ s.heap e de L added bs) (ret : ∀ t h' tk', Mod [] s.heap h' → Q (.int D.est t) { s with heap := h', toks := tk' }) :
    wpAny (model PySem.Challenge.rw_sv0019_01.row.prog w) A (getAttr (.ref e) (Str.ofString "estimated_elements") b) Q E s := by
  cases r with
  | none => obtain ⟨t1, t2, t3, t4, n, a, b, c, d, _⟩ := Z; exact prop_exp_est O hr a b (ret _)
  | some q => obtain ⟨t1, t2, t3, t4, n, a, b, c, d, _⟩ := Z; exact prop_rot_est O hr a b (ret _)
theorem fil_len (O : On w h₀ s.heap) (hr : Room A 6) (Z : Fil r D h₀ s.heap e de L added bs) (hsz : bs.length < 1000) (ret : ∀ t h' tk', Mod [] s.heap h' → Q (.int ((bs.length : Int) - 1) t) { s with heap := h', toks := tk' }) :
    wpAny (model PySem.Challenge.rw_sv0019_01.row.prog w) A (getAttr (.ref e) (Str.ofString "expansions") b) Q E s := by
  cases r with
  | none => obtain ⟨t1, t2, t3, t4, n, a, b, c, d, _⟩ := Z; exact prop_exp_len O hr a b c hsz ret
  | some q => obtain ⟨t1, t2, t3, t4, n, a, b, c, d, _⟩ := Z; exact prop_rot_len O hr a b c hsz ret
theorem fil_cur {q : Int} (O : On w h₀ s.heap) (hr : Room A 6) (Z : Fil (some q) D h₀ s.heap e de L added bs) (hsz : bs.length < 1000) (ret : ∀ t h' tk', Mod [] s.heap h' → Q (.int (bs.length : Int) t) { s with heap := h', toks := tk' }) :
    wpAny (model PySem.Challenge.rw_sv0019_01.row.prog w) A (getAttr (.ref e) (Str.ofString "current_queue_size") b) Q E s := by
  obtain ⟨t1, t2, t3, t4, n, a, b, c, d, _⟩ := Z; exact prop_rot_cur O hr a b c hsz ret
theorem fil_max {q : Int} (O : On w h₀ s.heap) (hr : Room A 6) (Z : Fil (some q) D h₀ s.heap e de L added bs) (ret : ∀ t h' tk', Mod [] s.heap h' → Q (.int q t) { s with heap := h', toks := tk' }) :
    wpAny (model PySem.Challenge.rw_sv0019_01.row.prog w) A (getAttr (.ref e) (Str.ofString "max_queue_size") b) Q E s := by
  obtain ⟨t1, t2, t3, t4, n, a, b, c, d, _⟩ := Z; exact prop_rot_max O hr a b (ret _)
theorem fil_inst (Z : Fil r D h₀ s.heap e de L added bs) : ∃ ox, InstAt s.heap e ox (match r with | none => 457 | some _ => 539) (some (dictOf [] 0)) := by
  cases r with
  | none => obtain ⟨t1, t2, t3, t4, n, a, b, c, d, _⟩ := Z; exact ⟨_, a.1, rfl, rfl, b.1⟩
  | some q => obtain ⟨t1, t2, t3, t4, n, a, b, c, d, _⟩ := Z; exact ⟨_, a.1, rfl, rfl, b.1⟩
variable {Q2 : Value × List Value → Shared → Prop} {pl : Sem Bool}
theorem meth_add (O : On w h₀ s.heap) (Z : Fil r D h₀ s.heap e de L added bs) (h : Q2 (.ref 431, [.ref e]) s) : wpAny (model PySem.Challenge.rw_sv0019_01.row.prog w) A (getMethod (.ref e) (Str.ofString "add") pl) Q2 E s := by
  have X : (hd1.heap_39 w.params).In s.heap := O.wd.1.keeps O.stays
  obtain ⟨ox, I⟩ := fil_inst Z
  cases r with
  | none => refine' method_fn (C := 457) (f := 431) (od := some (dictOf [] 0)) X I ?y1 ?y2 ?y3 ?y4 ?y5 h; (case y1 => k_is); (case y2 => k_is); (case y3 => k_is); (case y4 => k_is); (case y5 => exact rfl)
  | some q => refine' method_fn (C := 539) (f := 431) (od := some (dictOf [] 0)) X I ?y1 ?y2 ?y3 ?y4 ?y5 h; (case y1 => k_is); (case y2 => k_is); (case y3 => k_is); (case y4 => k_is); (case y5 => exact rfl)
theorem meth_check (O : On w h₀ s.heap) (Z : Fil r D h₀ s.heap e de L added bs) (h : Q2 (.ref 416, [.ref e]) s) : wpAny (model PySem.Challenge.rw_sv0019_01.row.prog w) A (getMethod (.ref e) (Str.ofString "check") pl) Q2 E s := by
  have X : (hd1.heap_39 w.params).In s.heap := O.wd.1.keeps O.stays
  obtain ⟨ox, I⟩ := fil_inst Z
  cases r with
  | none => refine' method_fn (C := 457) (f := 416) (od := some (dictOf [] 0)) X I ?y1 ?y2 ?y3 ?y4 ?y5 h; (case y1 => k_is); (case y2 => k_is); (case y3 => k_is); (case y4 => k_is); (case y5 => exact rfl)
  | some q => refine' method_fn (C := 539) (f := 416) (od := some (dictOf [] 0)) X I ?y1 ?y2 ?y3 ?y4 ?y5 h; (case y1 => k_is); (case y2 => k_is); (case y3 => k_is); (case y4 => k_is); (case y5 => exact rfl)
theorem meth_checkalt (O : On w h₀ s.heap) (Z : Fil r D h₀ s.heap e de L added bs) (h : Q2 (.ref 423, [.ref e]) s) : wpAny (model PySem.Challenge.rw_sv0019_01.row.prog w) A (getMethod (.ref e) (Str.ofString "check_alt") pl) Q2 E s := by
  have X : (hd1.heap_39 w.params).In s.heap := O.wd.1.keeps O.stays
  obtain ⟨ox, I⟩ := fil_inst Z
  cases r with
  | none => refine' method_fn (C := 457) (f := 423) (od := some (dictOf [] 0)) X I ?y1 ?y2 ?y3 ?y4 ?y5 h; (case y1 => k_is); (case y2 => k_is); (case y3 => k_is); (case y4 => k_is); (case y5 => exact rfl)
  | some q => refine' method_fn (C := 539) (f := 423) (od := some (dictOf [] 0)) X I ?y1 ?y2 ?y3 ?y4 ?y5 h; (case y1 => k_is); (case y2 => k_is); (case y3 => k_is); (case y4 => k_is); (case y5 => exact rfl)
theorem meth_push (O : On w h₀ s.heap) (Z : Fil r D h₀ s.heap e de L added bs) (h : Q2 (.ref (pushAt r), [.ref e]) s) : wpAny (model PySem.Challenge.rw_sv0019_01.row.prog w) A (getMethod (.ref e) (Str.ofString "push") pl) Q2 E s := by
  have X : (hd1.heap_39 w.params).In s.heap := O.wd.1.keeps O.stays
  obtain ⟨ox, I⟩ := fil_inst Z
  cases r with
  | none => refine' method_fn (C := 457) (f := 409) (od := some (dictOf [] 0)) X I ?y1 ?y2 ?y3 ?y4 ?y5 h; (case y1 => k_is); (case y2 => k_is); (case y3 => k_is); (case y4 => k_is); (case y5 => exact rfl)
  | some q => refine' method_fn (C := 539) (f := 520) (od := some (dictOf [] 0)) X I ?y1 ?y2 ?y3 ?y4 ?y5 h; (case y1 => k_is); (case y2 => k_is); (case y3 => k_is); (case y4 => k_is); (case y5 => exact rfl)
theorem meth_pop {q : Int} (O : On w h₀ s.heap) (Z : Fil (some q) D h₀ s.heap e de L added bs) (h : Q2 (.ref 513, [.ref e]) s) : wpAny (model PySem.Challenge.rw_sv0019_01.row.prog w) A (getMethod (.ref e) (Str.ofString "pop") pl) Q2 E s := by
  have X : (hd1.heap_39 w.params).In s.heap := O.wd.1.keeps O.stays
  obtain ⟨ox, I⟩ := fil_inst Z
  refine' method_fn (C := 539) (f := 513) (od := some (dictOf [] 0)) X I ?y1 ?y2 ?y3 ?y4 ?y5 h; (case y1 => k_is); (case y2 => k_is); (case y3 => k_is); (case y4 => k_is); (case y5 => exact rfl)
theorem cont_fil {Q : Value → Shared → Prop} {g : Heap} {Lf : Addr} {m : Str → Option Value} (F : Fr g Lf s.heap m) (X : (hd1.heap_39 w.params).In g) (Z : Fil r D h₀ s.heap e de L added bs) 
    (h : wpAny (model PySem.Challenge.rw_sv0019_01.row.prog w) A (call (.ref 362) [.ref e, key]) (fun r s' => wpAny (model PySem.Challenge.rw_sv0019_01.row.prog w) A (truthy r) (fun b => Q (.bool b)) E s') E s) :
    wpAny (model PySem.Challenge.rw_sv0019_01.row.prog w) A (compareOp .In key (.ref e)) Q E s := by
  obtain ⟨ox, I⟩ := fil_inst Z
  cases r with
  | none => refine' in_K (C := 457) (f := 362) (od := some (dictOf [] 0)) F X I ?y1 ?y2 h; (case y1 => k_is); (case y2 => k_is)
  | some q => refine' in_K (C := 539) (f := 362) (od := some (dictOf [] 0)) F X I ?y1 ?y2 h; (case y1 => k_is); (case y2 => k_is)
end
end
section
local macro_rules | `(tactic| walk_at "bf none") => `(tactic| skip)
local macro_rules | `(tactic| walk_at "bf none") => `(tactic| skip)
local macro_rules | `(tactic| walk_at "bf none") => `(tactic| skip)
local macro_rules | `(tactic| walk_at "bf none") => `(tactic| skip)
local macro_rules | `(tactic| walk_at "bf none") => `(tactic| skip)
local macro_rules | `(tactic| walk_at "bf none") => `(tactic| skip)
local macro_rules | `(tactic| walk_at "bf none") => `(tactic| skip)
theorem compTurn_two0 (elt t1 i1 t2 i2 : PySem.Expr) (scope : Scope) (pos : Pos) (it acc : Value) (env : Env) :
    compTurn (.ListComp elt [⟨t1, i1, [], 0⟩, ⟨t2, i2, [], 0⟩] scope pos) 0 it acc env = (do
      standAt i1.pos
      match ← pyNext it with
      | none => pure (.done .next)
      | some v =>
        letOwnedTupleGo t1 it v
        assign t1 env v
        let mut ok := true
        for c in ([] : List PySem.Expr) do
          if ok then ok ← isTrue c env (eval c env)
        if ok then
          let x ← eval i2 env
          standAt i2.pos
          let x ← foldedSetIterable i2 env x
          let _ ← runOwn (.compStart (.ListComp elt [⟨t1, i1, [], 0⟩, ⟨t2, i2, [], 0⟩] scope pos) 1 (← holding [x] (pyIter x)) acc env) env
        again (.compLoop (.ListComp elt [⟨t1, i1, [], 0⟩, ⟨t2, i2, [], 0⟩] scope pos) 0 it acc env)) := by rfl
theorem compTurn_two1 (elt t1 i1 t2 i2 : PySem.Expr) (scope : Scope) (pos : Pos) (it acc : Value) (env : Env) :
    compTurn (.ListComp elt [⟨t1, i1, [], 0⟩, ⟨t2, i2, [], 0⟩] scope pos) 1 it acc env = (do
      standAt i2.pos
      match ← pyNext it with
      | none => pure (.done .next)
      | some v =>
        letOwnedTupleGo t2 it v
        assign t2 env v
        let mut ok := true
        for c in ([] : List PySem.Expr) do
          if ok then ok ← isTrue c env (eval c env)
        if ok then
          (do let _ ← call (.builtin "list.append") [acc, ← eval elt env])
        again (.compLoop (.ListComp elt [⟨t1, i1, [], 0⟩, ⟨t2, i2, [], 0⟩] scope pos) 1 it acc env)) := by rfl
section
variable {prog : Program} {w : World} {A : Around} {R : Result → Shared → Prop} {s : Shared} {elt t1 i1 t2 i2 : PySem.Expr} {scope : Scope} {pos : Pos} {it acc : Value} {env : Env}
theorem two_loop0 (I : Nat → Shared → Prop)
    (turn : ∀ n s, I n s → wpAny (model prog w) A (pyNext it) (fun r s₁ => match r with
      | none => R (.ok .next) s₁
      | some v => wpAny (model prog w) A (assign t1 env v) (fun _ s₂ =>
          wpAny (model prog w) A (eval i2 env) (fun x s₃ => wpAny (model prog w) A (pyIter x) (fun iv s₄ =>
            codeAny (model prog w) A (.compStart (.ListComp elt [⟨t1, i1, [], 0⟩, ⟨t2, i2, [], 0⟩] scope pos) 1 iv acc env) (fun r s₅ => match r with | .ok _ => ∃ m, m < n ∧ I m s₅ | .error _ => False) s₄) (fun _ _ => False) s₃) (fun _ _ => False) s₂) (fun _ _ => False) s₁) (fun _ _ => False) s)
    (n : Nat) (h : I n s) (ht : ∀ v, letOwnedTupleGo t1 it v = pure () := by intro _; rfl) (hs : ∀ x, foldedSetIterable i2 env x = pure x := by intro _; rfl) :
    codeAny (model prog w) A (.compLoop (.ListComp elt [⟨t1, i1, [], 0⟩, ⟨t2, i2, [], 0⟩] scope pos) 0 it acc env) R s := by
  refine codeAny_loop rfl I (fun n s hI => ?_) n h
  show wpAny _ A ((compTurn (.ListComp elt [⟨t1, i1, [], 0⟩, ⟨t2, i2, [], 0⟩] scope pos) 0 it acc env).onRaise (fun x => do noteFrame x env; theTreesLotGoes x)) _ _ s
  refine wpAny_noted ?_
  rw [compTurn_two0]
  refine wpAny_bind (wpAny_standAt (wpAny_bind (wpAny_mono (turn n s hI) (fun r s₁ h₁ => ?_) fun _ _ h' => h'.elim)))
  cases r with
  | none => exact wpAny_pure h₁
  | some v =>
    refine wpAny_bind (wpAny_of_eq (ht v) ?_)
    refine wpAny_bind (wpAny_mono h₁ (fun _ s₂ h₂ => wpAny_bind (wpAny_pure ?_)) fun _ _ h' => h'.elim)
    simp only [if_true]
    refine wpAny_bind (wpAny_mono h₂ (fun x s₃ h₃ => wpAny_bind (wpAny_standAt (wpAny_bind (wpAny_of_eq (hs x) (wpAny_bind (wpAny_holding (wpAny_mono h₃ (fun iv s₄ h₄ => ?_) fun _ _ h' => h'.elim))))))) fun _ _ h' => h'.elim)
    refine wpAny_bind (wpAny_runOwn (codeAny_mono h₄ fun r s₅ h₅ => ?_))
    cases r with
    | ok f => exact wpAny_pure ⟨rfl, h₅⟩
    | error e => exact h₅.elim
theorem two_loop1 (I : Nat → Shared → Prop)
    (turn : ∀ n s, I n s → wpAny (model prog w) A (pyNext it) (fun r s₁ => match r with
      | none => R (.ok .next) s₁
      | some v => wpAny (model prog w) A (assign t2 env v) (fun _ s₂ =>
          wpAny (model prog w) A (eval elt env) (fun x s₃ => wpAny (model prog w) A (call (.builtin "list.append") [acc, x]) (fun _ s₄ => ∃ m, m < n ∧ I m s₄) (fun _ _ => False) s₃) (fun _ _ => False) s₂) (fun _ _ => False) s₁) (fun _ _ => False) s)
    (n : Nat) (h : I n s) (ht : ∀ v, letOwnedTupleGo t2 it v = pure () := by intro _; rfl) :
    codeAny (model prog w) A (.compLoop (.ListComp elt [⟨t1, i1, [], 0⟩, ⟨t2, i2, [], 0⟩] scope pos) 1 it acc env) R s := by
  refine codeAny_loop rfl I (fun n s hI => ?_) n h
  show wpAny _ A ((compTurn (.ListComp elt [⟨t1, i1, [], 0⟩, ⟨t2, i2, [], 0⟩] scope pos) 1 it acc env).onRaise (fun x => do noteFrame x env; theTreesLotGoes x)) _ _ s
  refine wpAny_noted ?_
  rw [compTurn_two1]
  refine wpAny_bind (wpAny_standAt (wpAny_bind (wpAny_mono (turn n s hI) (fun r s₁ h₁ => ?_) fun _ _ h' => h'.elim)))
  cases r with
  | none => exact wpAny_pure h₁
  | some v =>
    refine wpAny_bind (wpAny_of_eq (ht v) ?_)
    refine wpAny_bind (wpAny_mono h₁ (fun _ s₂ h₂ => wpAny_bind (wpAny_pure ?_)) fun _ _ h' => h'.elim)
    simp only [if_true]
    exact wpAny_bind (wpAny_bind (wpAny_mono h₂ (fun x s₃ h₃ => wpAny_bind (wpAny_mono h₃ (fun _ s₄ h₄ => wpAny_pure (wpAny_pure ⟨rfl, h₄⟩)) fun _ _ h' => h'.elim)) fun _ _ h' => h'.elim))
theorem two_start1
    (h0 : codeAny (model prog w) A (.compLoop (.ListComp elt [⟨t1, i1, [], 0⟩, ⟨t2, i2, [], 0⟩] scope pos) 1 it acc env) R s)
    (h : wpAny (model prog w) A (pyIter it) (fun it' s' => codeAny (model prog w) A (.compLoop (.ListComp elt [⟨t1, i1, [], 0⟩, ⟨t2, i2, [], 0⟩] scope pos) 1 it' acc env) R s') (fun _ _ => False) s) :
    codeAny (model prog w) A (.compStart (.ListComp elt [⟨t1, i1, [], 0⟩, ⟨t2, i2, [], 0⟩] scope pos) 1 it acc env) R s := by
  refine codeAny_of_tree ?_
  show wpAny _ _ ((compStart (.ListComp elt [⟨t1, i1, [], 0⟩, ⟨t2, i2, [], 0⟩] scope pos) 1 it acc env).onRaise (fun x => do noteFrame x env; standAt theWindowsPlace)) _ _ s
  refine wpAny_notedAt ?_
  unfold compStart
  show wpAny _ _ (ask >>= _) _ _ s
  refine wpAny_bind (wpAny_askSetting (wpAny_ite ?_))
  split
  · first
      | exact wpAny_bind (wpAny_pure (wpAny_pure (And.intro rfl h0)))
      | exact wpAny_pure (And.intro rfl h0)
  · first
      | exact wpAny_bind (wpAny_rule (wpAny_bind (wpAny_standAt (wpAny_bind (wpAny_mono h (fun it' s' h' => wpAny_pure (And.intro rfl h')) fun _ _ x => x.elim)))))
      | exact wpAny_rule (wpAny_bind (wpAny_standAt (wpAny_bind (wpAny_mono h (fun it' s' h' => wpAny_pure (And.intro rfl h')) fun _ _ x => x.elim))))
end
theorem Paired.mono {α β : Type} {F G : α → β → Prop} (k : ∀ a b, F a b → G a b) {l : List α} {m : List β} (x : Paired F l m) : Paired G l m := by
  induction x with
  | nil => exact .nil
  | cons h _ ih => exact .cons (k _ _ h) ih
structure TwoAt {δ : Type} (prog : Program) (w : World) (A : Around) (env : Env) (elt i2 : PySem.Expr) (x y : Str) (scope : Scope) (cl : List (Str × Addr)) (P : Value → δ → (Addr → Obj → Prop) → Prop) (g : Nat → Nat → δ) (cnt : Nat → Nat) (V2 : Nat → Nat → Value → Prop) (its : Array Value) (s₁ : Shared) (Q : Value → Shared → Prop) : Prop where
  src : ∀ i v h' tk C m', its[i]? = some v → Mod [] s₁.heap h' → s₁.heap.get? C = none → h'.Ns C m' → m' x = some v →
     wpAny (model prog w) A (eval i2 (compEnvC scope cl C env)) (fun xv s₂ => ∃ h2 tk2, s₂ = { s₁ with heap := h2, toks := tk2 } ∧ Mod [] h' h2 ∧ wpAny (model prog w) A (pyIter xv) (fun iv s₃ => ∃ h3 tk3 I2 fp St, s₃ = { s₁ with heap := h3, toks := tk3 } ∧ iv = .ref I2 ∧ h2.get? I2 = none ∧ (∀ j h, St j h → ∃ o, h.get? I2 = some o) ∧ Mod [] h2 h3 ∧ Walks prog w A I2 fp [I2] (cnt i) (V2 i) St ∧ St 0 h3 ∧ ∀ b ∈ fp, b = I2 ∨ ∃ o, s₁.heap.get? b = some o) (fun _ _ => False) s₂) (fun _ _ => False) { s₁ with heap := h', toks := tk }
  el : ∀ i j v u h' tk C m', its[i]? = some v → j < cnt i → V2 i j u → Mod [] s₁.heap h' → s₁.heap.get? C = none → h'.Ns C m' → m' x = some v → m' y = some u →
     wpAny (model prog w) A (eval elt (compEnvC scope cl C env)) (fun r s₂ => ∃ h2 tk2, s₂ = { s₁ with heap := h2, toks := tk2 } ∧ Mod [] h' h2 ∧ P r (g i j) (fun a o => h2.get? a = some o ∧ h'.get? a = none)) (fun _ _ => False) { s₁ with heap := h', toks := tk }
  fin : ∀ D h' tk ys, Mod [] s₁.heap h' → s₁.heap.get? D = none → h'.get? D = some (LCg.lst ys) → Paired (fun v d => P v d (fun a o => h'.get? a = some o ∧ s₁.heap.get? a = none ∧ a ≠ D)) ys ((List.range its.size).flatMap fun i => (List.range (cnt i)).map (g i)) → Q (.ref D) { s₁ with heap := h', toks := tk }
def KK (h : Heap) (W : List Addr) (h' : Heap) : Addr → Obj → Prop := fun a o => h'.get? a = some o ∧ h.get? a = none ∧ a ∉ W
theorem not4 {a b c d e : Addr} (h1 : a ≠ b) (h2 : a ≠ c) (h3 : a ≠ d) (h4 : a ≠ e) : a ∉ [b, c, d, e] := fun q => by
  rcases List.mem_cons.mp q with q | q
  · exact h1 q
  rcases List.mem_cons.mp q with q | q
  · exact h2 q
  rcases List.mem_cons.mp q with q | q
  · exact h3 q
  · exact h4 (List.mem_singleton.mp q)
theorem two_len {δ : Type} {g : Nat → Nat → δ} {cnt : Nat → Nat} (hc : ∀ i, cnt i ≤ 1000) (n : Nat) : ((List.range n).flatMap fun i => (List.range (cnt i)).map (g i)).length ≤ 1000 * n := by
  induction n with
  | zero => simp
  | succ n ih =>
    rw [List.range_succ, List.flatMap_append, List.length_append]
    have := hc n
    simp only [List.flatMap_cons, List.flatMap_nil, List.append_nil, List.length_map, List.length_range]
    omega
section
variable {δ : Type} {prog : Program} {w : World} {A : Around} {env : Env} {elt i1 i2 : PySem.Expr} {x y : Str} {px py : Pos} {scope : Scope} {pos : Pos} {cl : List (Str × Addr)} {P : Value → δ → (Addr → Obj → Prop) → Prop} {g : Nat → Nat → δ} {cnt : Nat → Nat} {V2 : Nat → Nat → Value → Prop} {its : Array Value} {s₁ : Shared} {Q : Value → Shared → Prop} {R : Result → Shared → Prop}
theorem two_body {I D C ax : Addr} {h0 : Heap} {tk0 : Nat} {m0 : Str → Option Value} (hP : ∀ v d K K', (∀ a o, K a o → K' a o) → P v d K → P v d K') (hA : A.handled = none) (hkind : scope.kind = .function)
    (hx : scope.names.lookup x = some .local) (hy : scope.names.lookup y = some .local) (hxy : x ≠ y) (hc : ∀ i, cnt i ≤ 1000) (hn : its.size ≤ 1000) (hs : ∀ C v, foldedSetIterable i2 (compEnvC scope cl C env) v = pure v)
    (T : TwoAt prog w A env elt i2 x y scope cl P g cnt V2 its s₁ Q) (nI : s₁.heap.get? I = none) (nD : s₁.heap.get? D = none) (nC : s₁.heap.get? C = none) (hID : I ≠ D) (hIC : I ≠ C) (hDC : D ≠ C)
    (hl : s₁.heap.IsList ax its) (M0 : Mod [] s₁.heap h0) (hit : h0.IsListIter I ax 0) (hD : h0.get? D = some (LCg.lst [])) (hn0 : h0.Ns C m0)
    (hR : ∀ h' tk m' ys, Mod [] s₁.heap h' → h'.Ns C m' → h'.get? D = some (LCg.lst ys) → Paired (fun v d => P v d (KK s₁.heap [I, C, D] h')) ys ((List.range its.size).flatMap fun i => (List.range (cnt i)).map (g i)) → R (.ok .next) { s₁ with heap := h', toks := tk }) :
    codeAny (model prog w) A (.compLoop (.ListComp elt [⟨.Name x px, i1, [], 0⟩, ⟨.Name y py, i2, [], 0⟩] scope pos) 0 (.ref I) (.ref D) (compEnvC scope cl C env)) R { s₁ with heap := h0, toks := tk0 } := by
  have live : ∀ {h' : Heap} {b : Addr}, Mod [] s₁.heap h' → (∃ o, s₁.heap.get? b = some o) → ∃ o, h'.get? b = some o := fun M ⟨o, e⟩ => ⟨o, M _ _ (fun z => nomatch z) e⟩
  have axl : ∃ o, s₁.heap.get? ax = some o := let ⟨o, e, _⟩ := hl; ⟨o, e⟩
  have hax : ax ≠ I := fun z => by obtain ⟨o, e⟩ := axl; rw [z, nI] at e; cases e
  have step : ∀ {a : Addr} {h' h'' : Heap}, s₁.heap.get? a = none → Mod [] s₁.heap h' → (∀ b o, b ≠ a → h'.get? b = some o → h''.get? b = some o) → Mod [] s₁.heap h'' := fun na M k b o _ e => k b o (fun z => by rw [z, na] at e; cases e) (M b o (fun z => nomatch z) e)
  have itk : ∀ {h' h'' : Heap} {i : Nat}, h'.IsListIter I ax i → (∀ o, h'.get? I = some o → h''.get? I = some o) → h''.IsListIter I ax i := fun st k => let ⟨o, e, r⟩ := st; ⟨o, k o e, r⟩
  refine two_loop0 (fun k s' => ∃ h' tk i ys m', s' = { s₁ with heap := h', toks := tk } ∧ i ≤ its.size ∧ k = its.size + 1 - i ∧ Mod [] s₁.heap h' ∧ h'.IsListIter I ax i ∧ h'.Ns C m' ∧ h'.get? D = some (LCg.lst ys) ∧
    Paired (fun v d => P v d (KK s₁.heap [I, C, D] h')) ys ((List.range i).flatMap fun i => (List.range (cnt i)).map (g i))) ?_ (its.size + 1) ⟨h0, tk0, 0, [], m0, rfl, Nat.zero_le _, rfl, M0, hit, hn0, hD, .nil⟩ (hs := hs C)
  rintro k s' ⟨h', tk, i, ys, m', rfl, hi, rfl, M, hit', hn', hD', hp'⟩
  have W1 := Walks.list (prog := prog) (w := w) hA I ax hax its
  have hl' : h'.IsList ax its := let ⟨o, e, r⟩ := hl; ⟨o, M _ _ (fun z => nomatch z) e, r⟩
  by_cases hlt : i < its.size
  · refine W1.item i _ _ _ hlt ⟨hit', hl'⟩ fun v h2 tk2 hv st2 hk2 => ?_
    have M2 : Mod [] s₁.heap h2 := step nI M fun b o hb e => hk2 b o (by simpa using hb) e
    refine wpAny_assign_Name (wpAny_storeName_local (lookup_relabel_local hx) (hn'.at' fun o e => hk2 _ o (by simpa using Ne.symm hIC) e) (fun h3 hn3 hs3 => ?_) (by simp [compEnvC, relabel, hkind]))
    have M3 : Mod [] s₁.heap h3 := step nC M2 fun b o hb e => hs3.extBut b o hb e
    have hit3 : h3.IsListIter I ax (i + 1) := itk st2.1 fun o e => hs3.extBut I o hIC e
    have hD3 : h3.get? D = some (LCg.lst ys) := hs3.extBut D _ hDC (hk2 _ _ (by simpa using Ne.symm hID) hD')
    have hp3 : Paired (fun v d => P v d (KK s₁.heap [I, C, D] h3)) ys ((List.range i).flatMap fun i => (List.range (cnt i)).map (g i)) := Paired.mono (fun v d q => hP v d _ _ (fun a o z => ⟨hs3.extBut a o (fun e => z.2.2 (e ▸ .tail _ (.head _))) (hk2 a o (fun e => z.2.2 (List.mem_singleton.mp e ▸ .head _)) z.1), z.2⟩) q) hp'
    refine wpAny_mono (T.src i v h3 _ C _ hv M3 nC hn3 (by simp)) (fun xv s4 h4' => ?_) (fun _ _ e => e)
    obtain ⟨h4, tk4, rfl, M4, w4⟩ := h4'
    refine wpAny_mono w4 (fun iv s5 h5' => ?_) (fun _ _ e => e)
    obtain ⟨h5, tk5, I2, fp, St, rfl, rfl, nI2, eI2, M5, W, st0, hfp⟩ := h5'
    have M35 : Mod [] h3 h5 := M4.trans M5
    have ne2 : ∀ {a : Addr} {o : Obj}, h3.get? a = some o → a ≠ I2 := fun e z => by rw [z] at e; rw [M4 _ _ (fun z => nomatch z) e] at nI2; cases nI2
    have I2C : I2 ≠ C := fun z => by obtain ⟨o, _, _, e, _⟩ := hn3; exact ne2 e z.symm
    have I2D : I2 ≠ D := fun z => ne2 hD3 z.symm
    have I2I : I2 ≠ I := fun z => by obtain ⟨o, e, _⟩ := hit3; exact ne2 e z.symm
    have nI2' : s₁.heap.get? I2 = none := by
      cases q : s₁.heap.get? I2 with
      | none => rfl
      | some o => rw [M4 _ _ (fun z => nomatch z) (M3 _ _ (fun z => nomatch z) q)] at nI2; cases nI2
    have fpC : C ∉ fp := fun z => by
      rcases hfp C z with q | ⟨o, q⟩
      · exact I2C q.symm
      · rw [nC] at q; cases q
    have fpD : D ∉ fp := fun z => by
      rcases hfp D z with q | ⟨o, q⟩
      · exact I2D q.symm
      · rw [nD] at q; cases q
    have loop : codeAny (model prog w) A (.compLoop (.ListComp elt [⟨.Name x px, i1, [], 0⟩, ⟨.Name y py, i2, [], 0⟩] scope pos) 1 (.ref I2) (.ref D) (compEnvC scope cl C env))
        (fun r s₅ => match r with | .ok _ => (∃ m, m < its.size + 1 - i ∧ ∃ h' tk i ys m', s₅ = { s₁ with heap := h', toks := tk } ∧ i ≤ its.size ∧ m = its.size + 1 - i ∧ Mod [] s₁.heap h' ∧ h'.IsListIter I ax i ∧ h'.Ns C m' ∧ h'.get? D = some (LCg.lst ys) ∧
          Paired (fun v d => P v d (KK s₁.heap [I, C, D] h')) ys ((List.range i).flatMap fun i => (List.range (cnt i)).map (g i))) | .error _ => False) { s₁ with heap := h5, toks := tk5 } := by
      refine two_loop1 (fun k s' => ∃ h' tk j ys' m', s' = { s₁ with heap := h', toks := tk } ∧ j ≤ cnt i ∧ k = cnt i + 1 - j ∧ Mod [] s₁.heap h' ∧ h'.IsListIter I ax (i + 1) ∧ St j h' ∧ h'.Ns C m' ∧ m' x = some v ∧ h'.get? D = some (LCg.lst ys') ∧
        Paired (fun v d => P v d (KK s₁.heap [I2, I, C, D] h')) ys' (((List.range i).flatMap fun i => (List.range (cnt i)).map (g i)) ++ (List.range j).map (g i))) ?_ (cnt i + 1)
        ⟨h5, tk5, 0, ys, _, rfl, Nat.zero_le _, rfl, M3.trans M35, itk hit3 fun o e => M35 _ _ (fun z => nomatch z) e, st0, hn3.at' fun o e => M35 _ _ (fun z => nomatch z) e, by simp, M35 _ _ (fun z => nomatch z) hD3, ?_⟩
      · rintro k s' ⟨h6, tk6, j, ys', m6, rfl, hj, rfl, M6, hit6, st6, hn6, hmx, hD6, hp6⟩
        by_cases hjl : j < cnt i
        · refine W.item j _ _ _ hjl st6 fun u h7 tk7 hu st7 hk7 => ?_
          have M7 : Mod [] s₁.heap h7 := step nI2' M6 fun b o hb e => hk7 b o (by simpa using hb) e
          refine wpAny_assign_Name (wpAny_storeName_local (lookup_relabel_local hy) (hn6.at' fun o e => hk7 _ o (by simpa using Ne.symm I2C) e) (fun h8 hn8 hs8 => ?_) (by simp [compEnvC, relabel, hkind]))
          have M8 : Mod [] s₁.heap h8 := step nC M7 fun b o hb e => hs8.extBut b o hb e
          have st8 : St (j + 1) h8 := W.frame _ _ _ st7 fun b hb o e => hs8.extBut b o (fun z => fpC (by have z' : b = C := z; rw [← z']; exact hb)) e
          have hD8 : h8.get? D = some (LCg.lst ys') := hs8.extBut D _ hDC (hk7 _ _ (by simpa using Ne.symm I2D) hD6)
          refine wpAny_mono (T.el i j v u h8 _ C _ hv hjl hu M8 nC hn8 (by simp [hxy, hmx]) (by simp)) (fun rv s9 h9' => ?_) (fun _ _ e => e)
          obtain ⟨h9, tk9, rfl, M9, p9⟩ := h9'
          have hlen : ys'.length ≤ 1000 * its.size + 1000 := by
            rw [hp6.length, List.length_append, List.length_map, List.length_range]
            have := two_len (g := g) hc i
            have := hc i
            have : 1000 * i ≤ 1000 * its.size := Nat.mul_le_mul_left _ hi
            omega
          refine append_at (hsz := by show ys'.toArray.size ≤ sizeLine; rw [List.size_toArray, sizeLine_eq]; omega) (M9 _ _ (fun z => nomatch z) hD8) fun h10 hs10 hD10 => ?_
          have M10 : Mod [] s₁.heap h10 := step nD (M8.trans M9) fun b o hb e => hs10.extBut b o hb e
          refine ⟨cnt i + 1 - (j + 1), by omega, h10, tk9, j + 1, ys' ++ [rv], fun z => if z = y then some u else m6 z, rfl, hjl, rfl, M10, ?_, ?_, ?_, by simp [hxy, hmx], hD10.trans (congrArg some (LCg.lst_snoc ys' rv)), ?_⟩
          · exact itk hit6 fun o e => hs10.extBut I o hID (M9 _ _ (fun z => nomatch z) (hs8.extBut I o hIC (hk7 _ _ (by simpa using Ne.symm I2I) e)))
          · exact W.frame _ _ _ st8 fun b hb o e => hs10.extBut b o (fun z => fpD (by have z' : b = D := z; rw [← z']; exact hb)) (M9 _ _ (fun z => nomatch z) e)
          · exact hn8.at' fun o e => hs10.extBut C o (Ne.symm hDC) (M9 _ _ (fun z => nomatch z) e)
          · rw [List.range_succ, List.map_append, ← List.append_assoc]
            refine Paired.snoc (Paired.mono (fun v d q => hP v d _ _ (fun a o z => ⟨?zz, z.2⟩) q) hp6) ?yy
            case zz =>
              have z1 := z.2.2
              simp only [List.mem_cons, List.not_mem_nil, or_false, not_or] at z1
              exact hs10.extBut a o z1.2.2.2 (M9 _ _ (fun z => nomatch z) (hs8.extBut a o z1.2.2.1 (hk7 _ _ (by simpa using z1.1) z.1)))
            case yy =>
              refine hP _ _ _ _ (fun a o z => ?_) p9
              have off : ∀ {b : Addr}, (∃ o, h8.get? b = some o) → a ≠ b := fun ⟨o', e⟩ q => by rw [q] at z; rw [z.2] at e; cases e
              have aD := off ⟨_, hD8⟩
              have aC := off (by obtain ⟨o, _, _, e, _⟩ := hn8; exact ⟨o, e⟩)
              have aI := off (by obtain ⟨o, e, _⟩ := hit6; exact ⟨o, hs8.extBut I o hIC (hk7 _ _ (by simpa using Ne.symm I2I) e)⟩)
              have aI2 := off (eI2 _ _ st8)
              refine ⟨hs10.extBut a o aD z.1, ?_, not4 aI2 aI aC aD⟩
              cases q : s₁.heap.get? a with
              | none => rfl
              | some o' => have := M8 _ _ (fun z => nomatch z) q; rw [z.2] at this; cases this
        · obtain rfl : j = cnt i := Nat.le_antisymm hj (Nat.not_lt.mp hjl)
          refine W.done _ _ _ st6 fun h7 tk7 hk7 => ?_
          refine ⟨its.size + 1 - (i + 1), by omega, h7, tk7, i + 1, ys', _, rfl, hlt, rfl, step nI2' M6 fun b o hb e => hk7 b o (by simpa using hb) e, itk hit6 fun o e => hk7 _ _ (by simpa using Ne.symm I2I) e, hn6.at' fun o e => hk7 _ _ (by simpa using Ne.symm I2C) e, hk7 _ _ (by simpa using Ne.symm I2D) hD6, ?_⟩
          rw [List.range_succ, List.flatMap_append]
          simp only [List.flatMap_cons, List.flatMap_nil, List.append_nil]
          refine Paired.mono (fun v d q => hP v d _ _ (fun a o z => ?_) q) hp6
          have z1 := z.2.2
          simp only [List.mem_cons, List.not_mem_nil, or_false, not_or] at z1
          exact ⟨hk7 _ _ (fun e => z1.1 (List.mem_singleton.mp e)) z.1, z.2.1, fun e => z.2.2 (.tail _ e)⟩
      · rw [List.range_zero, List.map_nil, List.append_nil]
        refine Paired.mono (fun v d q => hP v d _ _ (fun a o z => ?_) q) hp3
        have z1 := z.2.2
        simp only [List.mem_cons, List.not_mem_nil, or_false, not_or] at z1
        exact ⟨M35 _ _ (fun z => nomatch z) z.1, z.2.1, not4 (ne2 z.1) z1.1 z1.2.1 z1.2.2⟩
    exact two_start1 loop (W.self 0 _ _ _ st0 loop)
  · obtain rfl : i = its.size := Nat.le_antisymm hi (Nat.not_lt.mp hlt)
    refine W1.done _ _ _ ⟨hit', hl'⟩ fun h2 tk2 hk2 => ?_
    refine hR h2 tk2 m' ys (step nI M fun b o hb e => hk2 b o (by simpa using hb) e) (hn'.at' fun o e => hk2 _ o (by simpa using Ne.symm hIC) e) (hk2 _ _ (by simpa using Ne.symm hID) hD') ?_
    exact Paired.mono (fun v d q => hP v d _ _ (fun a o z => ⟨hk2 a o (fun e => z.2.2 (List.mem_singleton.mp e ▸ .head _)) z.1, z.2⟩) q) hp'
end
theorem two_comp {δ : Type} {prog : Program} {w : World} {A : Around} {E : Value → Shared → Prop} {env : Env} {elt i1 i2 : PySem.Expr} {x y : Str} {px py : Pos} {scope : Scope} {pos : Pos} {cl : List (Str × Addr)} {s : Shared} {ax : Addr} (P : Value → δ → (Addr → Obj → Prop) → Prop) (g : Nat → Nat → δ) (cnt : Nat → Nat) (V2 : Nat → Nat → Value → Prop) {its : Array Value} {Q : Value → Shared → Prop}
    (hP : ∀ v d K K', (∀ a o, K a o → K' a o) → P v d K → P v d K') (hA : A.handled = none) (hclos : closureFor scope env = pure cl) (hcell : ∀ y ∈ scope.names, y.2 ≠ .cell) (hkind : scope.kind = .function)
    (hnames : ∀ y ∈ scope.names, y.2 = .local → scope.names.lookup y.1 = some .local)
    (hx : scope.names.lookup x = some .local) (hy : scope.names.lookup y = some .local) (hxy : x ≠ y) (hc : ∀ i, cnt i ≤ 1000) (hn : its.size ≤ 1000)
    (h : wpAny (model prog w) A (eval i1 env) (fun xv s₁ => xv = .ref ax ∧ s₁.heap.IsList ax its ∧ TwoAt prog w A env elt i2 x y scope cl P g cnt V2 its s₁ Q) E s)
    (hs1 : ∀ x, foldedSetIterable i1 env x = pure x := by intro _; rfl) (hs : ∀ C v, foldedSetIterable i2 (compEnvC scope cl C env) v = pure v := by intro _ _; rfl) :
    wpAny (model prog w) A (eval (.ListComp elt [⟨.Name x px, i1, [], 0⟩, ⟨.Name y py, i2, [], 0⟩] scope pos) env) Q E s := by
  rw [eval_ListComp]
  refine wpAny_comprehension_free (use := none) rfl hs1 hclos hkind hnames (wpAny_mono h (fun xv s₁ h₁ => ?_) fun _ _ e => e)
  obtain ⟨rfl, hl, T⟩ := h₁
  have hlt : ax < s₁.heap.objs.size := by obtain ⟨_, e, _⟩ := hl; exact Heap.lt_size e
  refine wpAny_pyIter_list hl ?_
  refine wpAny_newObj_type (wpAny_newFunctionEnv hcell (by intro y hy; simp at hy) (fun h₁ hns₁ hsb₁ => ?_) hkind)
  dsimp only at hns₁ hsb₁ ⊢
  generalize hH1 : s₁.heap.push { cls := .type "list_iterator", data := .fields #[.ref ax, .int 0 0] } = H1 at hns₁ hsb₁ ⊢
  generalize hH2 : H1.push { cls := .type "list", dict := none, data := .seq ([] : List Value).toArray } = H2 at hns₁ hsb₁ ⊢
  have z1 : H1.objs.size = s₁.heap.objs.size + 1 := by rw [← hH1, Heap.size_push]
  have z2 : H2.objs.size = s₁.heap.objs.size + 2 := by rw [← hH2, Heap.size_push, z1]
  have nn : ∀ a, s₁.heap.objs.size ≤ a → s₁.heap.get? a = none := fun a ha => Heap.get?_none_of_le ha
  have nID : s₁.heap.objs.size ≠ H1.objs.size := by rw [z1]; exact Nat.ne_of_lt (Nat.lt_succ_self _)
  have nIC : s₁.heap.objs.size ≠ H2.objs.size := by rw [z2]; exact Nat.ne_of_lt (Nat.lt_succ_of_lt (Nat.lt_succ_self _))
  have nDC : H1.objs.size ≠ H2.objs.size := by rw [z1, z2]; exact Nat.ne_of_lt (Nat.lt_succ_self _)
  have up1 : ∀ b o, s₁.heap.get? b = some o → H1.get? b = some o := fun b o e => hH1 ▸ Heap.get?_push_of_some _ e
  have up2 : ∀ b o, H1.get? b = some o → H2.get? b = some o := fun b o e => hH2 ▸ Heap.get?_push_of_some _ e
  have up3 : ∀ b o, H2.get? b = some o → h₁.get? b = some o := fun b o e => hsb₁.extBut b o (Nat.ne_of_lt (Heap.lt_size e)) (Heap.get?_push_of_some _ e)
  have hit : h₁.IsListIter s₁.heap.objs.size ax 0 := ⟨_, up3 _ _ (up2 _ _ (hH1 ▸ Heap.get?_push_size _ rfl)), rfl, rfl⟩
  have hD : h₁.get? H1.objs.size = some (LCg.lst []) := up3 _ _ (hH2 ▸ Heap.get?_push_size _ rfl)
  have body : ∀ tk, codeAny (model prog w) A (.compLoop (.ListComp elt [⟨.Name x px, i1, [], 0⟩, ⟨.Name y py, i2, [], 0⟩] scope pos) 0 (.ref s₁.heap.objs.size) (.ref H1.objs.size) (compEnvC scope cl H2.objs.size env)) (compPost (model prog w) A E none Q (.ref H1.objs.size) H2.objs.size) { s₁ with heap := h₁, toks := tk } := fun tk => by
    refine two_body hP hA hkind hx hy hxy hc hn hs T (nn _ (Nat.le_refl _)) (nn _ (by rw [z1]; omega)) (nn _ (by rw [z2]; omega)) nID nIC nDC hl (fun b o _ e => up3 _ _ (up2 _ _ (up1 _ _ e))) hit hD hns₁ fun h' tk' m' ys M hn' hD' hp => ?_
    refine ⟨m', hn', fun h'' hs'' => ?_⟩
    refine T.fin _ h'' tk' ys (fun b o _ e => hs''.extBut b o (fun q => ?_) (M b o (fun z => nomatch z) e)) (nn _ (by rw [z1]; omega)) (hs''.extBut _ _ nDC hD') (Paired.mono (fun v d q => hP v d _ _ (fun a o z => ?_) q) hp)
    · have q' : b = H2.objs.size := q
      rw [q', nn _ (by rw [z2]; omega)] at e
      cases e
    · have z3 := z.2.2
      simp only [List.mem_cons, List.not_mem_nil, or_false, not_or] at z3
      exact ⟨hs''.extBut a o z3.2.1 z.1, z.2.1, z3.2.2⟩
  refine codeAny_compStart_list (body _) (wpAny_mono ((Walks.list (prog := prog) (w := w) hA s₁.heap.objs.size ax (Nat.ne_of_lt hlt) its).self 0 _ (fun v s' => codeAny (model prog w) A (.compLoop (.ListComp elt [⟨.Name x px, i1, [], 0⟩, ⟨.Name y py, i2, [], 0⟩] scope pos) 0 v (.ref H1.objs.size) (compEnvC scope cl H2.objs.size env)) (compPost (model prog w) A E none Q (.ref H1.objs.size) H2.objs.size) s') (fun _ _ => False) ⟨hit, ?_⟩ (body _)) (fun _ _ z => z) fun _ _ z => z.elim)
  obtain ⟨o, e, r⟩ := hl
  exact ⟨o, up3 _ _ (up2 _ _ (up1 _ _ e)), r⟩
end
end
section
local macro_rules | `(tactic| walk_at "binaryOp Mod int int") => `(tactic| ((with_reducible refine mod8_nat ?_)))
local macro_rules | `(tactic| walk_at "binaryOp Mod int int") => `(tactic| ((with_reducible refine mod_any (by assumption) ?_); intro r1 hr1 hr2))
local macro_rules | `(tactic| walk_at "binaryOp FloorDiv int int") => `(tactic| ((with_reducible refine div8_nat (by omega) ?_)))
local macro_rules | `(tactic| walk_at "binaryOp LShift int int") => `(tactic| ((with_reducible refine shl1_nat (by omega) ?_)))
local macro_rules | `(tactic| walk_at "subscriptTail") => `(tactic| (k_here; (with_reducible show wpAny _ _ (subscriptTail _ _ (Value.ref _) (Value.int _ _)) _ _ _); (with_unfolding_all refine' item_ints ?k1 ?k2 ?k3 ?k4 ?k5 ?_ ?k7; (case k1 => exact News.isList (by k_asm) (by k_mem)); (case k2 => assumption); (case k3 => omega); (case k4 => omega); (case k5 => omega); (case k7 => with_unfolding_all rfl); k_whole); intro _))
local macro_rules | `(tactic| walk_at "bf dec") => `(tactic| ((try simp only [decide_eq_true_eq, decide_eq_false_iff_not, Bool.not_eq_true', Bool.not_eq_false', Bool.not_eq_true, Bool.not_eq_false, beq_iff_eq, Bool.and_eq_true, Bool.not_true, Bool.not_false]); first | rfl | omega))
local macro_rules | `(tactic| walk_at "ite") => `(tactic| (k_here; (first | (k_closed; k_dflt (first | refine ite_pos (by decide) ?_ | refine ite_neg (by decide) ?_)) | refine ite_pos (by first | assumption | (walk_at "bf dec")) ?_ | refine ite_neg (by first | assumption | (walk_at "bf dec")) ?_ | (refine bf_ite ?_ ?_ <;> intro hc)); (try dsimp only)))
local macro_rules | `(tactic| walk_at "bf steps") => `(tactic| repeat' (first | (k_unfold; (try dsimp only)) | (walk1 <;> (try dsimp only)) | fail "no step"))
local macro_rules | `(tactic| walk_at "bf enter") => `(tactic| (refine' enter _ (by assumption) (by assumption) ?ho ?hcd ?hroom ?hbind ?hloc ?_ ?c1 ?c2 ?c3 ?c4; (case ho => k_is); (case hcd => k_is); (case hroom => first | assumption | omega | exact Room.lt (by assumption)); (case hbind => first | exact BindsTo.of_eq rfl | exact binds_K (by assumption) rfl (by k_is) rfl rfl rfl); (case hloc => exact locs rfl); (case c1 => exact rfl); (case c2 => exact rfl); (case c3 => exact rfl); (case c4 => decide)))
local macro_rules | `(tactic| walk_at "getMethod ref") => `(tactic| (k_here; (with_reducible show wpAny _ _ (getMethod _ (Str.ofString "_get_optimized_params") _) _ _ _); k_dflt (refine' cm_slot ?k1 ?k2 ?k3 ?k4 ?k5 ?k6 ?k7 ?k8 ?k9 ?k10 ?k11 ?k12 ?k13 ?_; (case k1 => k_asm); (case k2 => k_asm); (case k3 => k_asm); (case k4 => k_inst); (case k5 => k_is); (case k6 => k_is); (case k7 => k_is); (case k8 => k_is); (case k9 => k_is); (case k10 => k_is); (case k11 => k_is); (case k12 => decide +kernel); (case k13 => k_is); k_whole; intro q' h' F' N' l1; (try k_lt l1))))
local macro_rules | `(tactic| walk_at "callWith ref") => `(tactic| (k_here; (with_reducible show wpAny _ _ (callWith _ _ _ (backTo _ (starEach (_ :: _) _)) []) _ _ _); k_dflt (refine' callWith_K ?k1 ?k2 ?_; (case k1 => k_asm); (case k2 => k_is); k_whole)))
local macro_rules | `(tactic| walk_at "callWith ref") => `(tactic| (k_here; (with_reducible show wpAny _ _ (callWith _ _ _ _ (backToKw _ (keywordEach (_ :: _) _))) _ _ _); k_dflt (refine' callWith_KW ?k1 ?k2 ?k3 ?_; (case k1 => k_asm); (case k2 => k_is); (case k3 => exact rfl); k_whole)))
local macro_rules | `(tactic| walk_at "call builtin:len") => `(tactic| (k_here; (with_reducible show wpAny _ _ (call (Value.builtin "len") [Value.ref _]) _ _ _); (with_unfolding_all refine' call_len_list (items := (refs _).toArray) ?k1 ?k2 ?_; (case k1 => exact News.isList (by k_asm) (by k_mem)); (case k2 => first | (rw [List.size_toArray]; omega) | (simp only [List.size_toArray, List.length_append, List.length_cons, List.length_nil]; omega)); k_whole)))
local macro_rules | `(tactic| walk_at "subscriptTail") => `(tactic| (k_here; (with_reducible show wpAny _ _ (subscriptTail _ _ (Value.ref _) (Value.int _ _)) _ _ _); first
  | ((with_reducible show wpAny _ _ (subscriptTail _ _ (Value.ref _) (Value.int (-1) _)) _ _ _); with_unfolding_all refine' last_item ?k1 ?k2 ?_ ?k3; (case k2 => exact News.isList (by k_asm) (by k_mem)); (case k1 => assumption); (case k3 => with_unfolding_all rfl); k_whole)
  | ((with_reducible show wpAny _ _ (subscriptTail _ _ (Value.ref _) (Value.int 0 _)) _ _ _); with_unfolding_all refine' head_item ?k1 ?k2 ?_ ?k3; (case k2 => exact News.isList (by k_asm) (by k_mem)); (case k1 => assumption); (case k3 => with_unfolding_all rfl); k_whole)))
local macro_rules | `(tactic| walk_at "call builtin:list.pop") => `(tactic| (k_here; (with_reducible show wpAny _ _ (call (Value.builtin _) [Value.ref _, Value.int _ _]) _ _ _); k_dflt (refine' pop_refs ?F ?N ?U ?z ?_; (case F => k_asm); (case N => k_asm); (case U => k_upd); (case z => assumption)); (intro h' F' N'; (try dsimp only [List.nil_append, List.cons_append] at N'))))
local macro_rules | `(tactic| walk_at "getMethod ref") => `(tactic| (k_here; (with_reducible show wpAny _ _ (getMethod (Value.ref (BH.x _)) (Str.ofString "add_alt") _) _ _ _); k_dflt (refine' method_fn (C := 325) (f := 248) (od := some (dictOf [] 0)) ?y0 ⟨?x1, ?x3, ?x4, ?x2⟩ ?y1 ?y2 ?y3 ?y4 ?y5 ?_; (case y0 => assumption); (case x1 => assumption); (case x3 => exact rfl); (case x4 => exact rfl); (case x2 => assumption); (case y1 => k_is); (case y2 => k_is); (case y3 => k_is); (case y4 => k_is); (case y5 => exact rfl); k_whole)))
local macro_rules | `(tactic| walk_at "getMethod ref") => `(tactic| (k_here; (with_reducible show wpAny _ _ (getMethod (Value.ref (BH.x _)) (Str.ofString "hashes") _) _ _ _); k_dflt (refine' method_fn (C := 325) (f := 234) (od := some (dictOf [] 0)) ?y0 ⟨?x1, ?x3, ?x4, ?x2⟩ ?y1 ?y2 ?y3 ?y4 ?y5 ?_; (case y0 => assumption); (case x1 => assumption); (case x3 => exact rfl); (case x4 => exact rfl); (case x2 => assumption); (case y1 => k_is); (case y2 => k_is); (case y3 => k_is); (case y4 => k_is); (case y5 => exact rfl); k_whole)))
local macro_rules | `(tactic| walk_at "getMethod ref") => `(tactic| (k_here; (with_reducible show wpAny _ _ (getMethod (Value.ref _) (Str.ofString "_hash_func") _) _ _ _); k_dflt (refine' mu_slot ?y0 ?y6 ?y5 ?y1 ?y2 ?y3 ?y4 ?_; (case y0 => k_asm); (case y6 => k_asm); (case y5 => k_inst); (case y1 => k_is); (case y2 => k_is); (case y3 => k_is); (case y4 => first | exact rfl | decide +kernel); k_whole)))
local macro_rules | `(tactic| walk_at "callWith ref") => `(tactic| (k_here; (with_reducible show wpAny _ _ (callWith _ (Value.ref _) [] (backTo _ (starEach (_ :: _) _)) []) _ _ _); (rename (FnAt _ _) => fnX); k_dflt (refine' callWith_H ?k1 ?k2 ?k3 ?_; (case k1 => exact fnX); (case k2 => assumption); (case k3 => k_asm); k_whole)))
local macro_rules | `(tactic| walk_at "FnAt") => `(tactic| (k_dflt (refine' fnat_H ?k1 ?k2 ?k3; (case k1 => assumption); (case k2 => assumption); (case k3 => k_asm))))
local macro_rules | `(tactic| walk_at "bf tocomp") => `(tactic| repeat' (first | ((fail_if_success (with_reducible show wpAny _ _ (eval (PySem.Expr.ListComp _ _ _ _) _) _ _ _)); (k_unfold; (try dsimp only))) | ((fail_if_success (with_reducible show wpAny _ _ (eval (PySem.Expr.ListComp _ _ _ _) _) _ _ _)); (walk1 <;> (try dsimp only))) | fail "no step"))
local macro_rules | `(tactic| walk_at "bf comp") => `(tactic| (k_here; k_dflt (refine LCg.ListComp_U (F₀ := by k_asm) (by with_unfolding_all rfl) (by decide) (by rfl) (by decide) (by rfl) ?_)))
local macro_rules | `(tactic| walk_at "call builtin:len") => `(tactic| (k_here; (with_reducible show wpAny _ _ (call (Value.builtin "len") [Value.ref _]) _ _ _); (with_unfolding_all refine' call_len_list ?k1 ?k2 ?_; (case k1 => first | exact Fr.lst (by assumption) (by assumption) | exact News.isList (by assumption) (by k_mem)); (case k2 => first | (rw [List.size_toArray]; omega) | (simp only [List.size_toArray, List.length_append, List.length_cons, List.length_nil]; omega)); k_whole)))
local macro_rules | `(tactic| walk_at "subscriptTail Name Slice ref ref") => `(tactic| (k_here; (with_reducible show wpAny _ _ (subscriptTail _ (PySem.Expr.Slice _ _ none _) (Value.ref _) (Value.ref _)) _ _ _); k_dflt (refine' slice_lit2 rfl ?sF ?sN ?sl ?sp ?sq ?se ?_ ?ss ?st ?sz; (case sF => k_asm); (case sN => k_asm); (case sl => kmk_list); (case sp => kmk_part); (case sq => kmk_part); (case se => first | exact pick_from1 _ | exact pick_upto _ (by first | omega | (simp only [List.size_toArray, List.length_append, List.length_cons, List.length_nil]; omega))); (case ss => with_unfolding_all rfl); (case st => kmk_pure); (case sz => (rw [PySem.sizeLine_eq, List.size_toArray]; first | omega | (simp only [List.length_append, List.length_cons, List.length_nil]; omega)))); intro D' h' F' N' l1; (try k_lt l1); (try k_sweep)))
local macro_rules | `(tactic| walk_at "bf go") => `(tactic| repeat' (first | (k_unfold; (try dsimp only)) | ((with_reducible show wpAny _ _ (eval (PySem.Expr.Slice _ _ _ _) _) _ _ _); walk1) | (walk1 <;> (try dsimp only)) | fail "no step"))
local macro_rules | `(tactic| walk_at "binaryOp Add ref ref") => `(tactic| (k_here; (with_reducible show wpAny _ _ (binaryOp _ (Value.ref _) (Value.ref _)) _ _ _); k_dflt (refine' kmk_add_lit ?aF ?aN ?aa ?ab ?ae ?_ ?az; (case aF => k_asm); (case aN => k_asm); (case aa => kmk_list); (case ab => kmk_list); (case ae => exact rfl); (case az => (simp only [List.size_toArray, List.length_tail, List.length_take, Array.size_append]; first | size_fits | (rw [PySem.sizeLine_eq]; omega)))); intro D' h' F' N' l1; (try k_lt l1); (try k_sweep)))
local macro_rules | `(tactic| walk_at "subscriptTail Name Slice ref ref") => `(tactic| (k_here; (with_reducible show wpAny _ _ (subscriptTail _ (PySem.Expr.Slice _ _ none _) (Value.ref _) (Value.ref _)) _ _ _); k_dflt (refine' slice_ints2 rfl ?sF ?sN ?sl ?sp ?sq ?si ?sm ?sc ?_ ?ss ?st ?sz; (case sF => k_asm); (case sN => k_asm); (case sl => kmk_list); (case sp => kmk_part); (case sq => kmk_part); (case si => l_ints); (case sm => kmk_nums); (case sc => kmk_len); (case ss => with_unfolding_all rfl); (case st => kmk_pure); (case sz => first | kmk_size | (rw [PySem.sizeLine_eq, List.size_toArray]; omega))); intro D' ws' h' F' N' l1 hI' hC' hL'; (try simp only [Int.reduceNeg, Int.neg_neg, Int.reduceToNat] at hI' hC' hL'); (try k_lt l1); (try k_sweep)))
local macro_rules | `(tactic| walk_at "bf st") => `(tactic| repeat' (first | ((fail_if_success (with_reducible show wpAny _ _ (getMethod (Value.ref _) _ _) _ _ _)); (fail_if_success (with_reducible show wpAny _ _ (getAttr (Value.ref _) _ _) _ _ _)); (fail_if_success (with_reducible show wpAny _ _ (eval (PySem.Expr.ListComp _ _ _ _) _) _ _ _)); (fail_if_success (with_reducible show wpAny _ _ (call (Value.ref _) _) _ _ _)); (fail_if_success (with_reducible show wpAny _ _ (exec (PySem.Stmt.Try _ _ _ _ _) _) _ _ _)); (fail_if_success (with_reducible show wpAny _ _ (exec (PySem.Stmt.If _ _ _ _) _) _ _ _)); (fail_if_success (with_reducible show wpAny _ _ (exec (PySem.Stmt.Assign [PySem.Expr.Name _ _] (PySem.Expr.ListComp _ _ _ _) _) _) _ _ _)); (fail_if_success (with_reducible show wpAny _ _ (exec (PySem.Stmt.For _ _ _ _ _) _) _ _ _)); (fail_if_success (with_reducible show wpAny _ _ (compareOp CmpOp.In _ (Value.ref _)) _ _ _)); (first | (k_unfold; (try dsimp only)) | (walk1 <;> (try dsimp only)))) | fail "no step"))
local macro_rules | `(tactic| walk_at "bf sv") => `(tactic| repeat' (first | ((fail_if_success (with_reducible show wpAny _ _ (execs (PySem.Stmt.For _ _ _ _ _ :: _) _) _ _ _)); (fail_if_success (with_reducible show wpAny _ _ (call (Value.ref _) _ _) _ _ _)); (fail_if_success (with_reducible show wpAny _ _ (getMethod (Value.ref _) _ _) _ _ _)); (fail_if_success (with_reducible show wpAny _ _ (getAttr (Value.ref _) _ _) _ _ _)); (fail_if_success (with_reducible show wpAny _ _ (eval (PySem.Expr.ListComp _ _ _ _) _) _ _ _)); (fail_if_success (with_reducible show wpAny _ _ (call (Value.ref _) _) _ _ _)); (fail_if_success (with_reducible show wpAny _ _ (exec (PySem.Stmt.Try _ _ _ _ _) _) _ _ _)); (fail_if_success (with_reducible show wpAny _ _ (execs [PySem.Stmt.If _ _ _ _, PySem.Stmt.If _ _ _ _] _) _ _ _)); (fail_if_success (with_reducible show wpAny _ _ (execs [PySem.Stmt.Assign _ _ _, PySem.Stmt.Assign _ _ _] _) _ _ _)); (fail_if_success (with_reducible show wpAny _ _ (exec (PySem.Stmt.For _ _ _ _ _) _) _ _ _)); (fail_if_success (with_reducible show wpAny _ _ (compareOp CmpOp.In _ (Value.ref _)) _ _ _)); (first | (k_unfold; (try dsimp only)) | (walk1 <;> (try dsimp only)))) | fail "no step"))
local macro_rules | `(tactic| walk_at "subscriptTail") => `(tactic| (k_here; (with_reducible show wpAny _ _ (subscriptTail _ _ (Value.ref _) (Value.int _ _)) _ _ _); (with_unfolding_all refine' item_last ?ia ?ib ?ic ?_ ?ie; (case ia => exact News.isList (by k_asm) (by k_mem)); (case ib => (simp only [List.size_toArray, List.length_append, List.length_cons, List.length_nil]; omega)); (case ic => omega); (case ie => with_unfolding_all rfl); k_whole)))
local macro_rules | `(tactic| walk_at "bf sw") => `(tactic| repeat' (first | ((fail_if_success (with_reducible show wpAny _ _ (execs (PySem.Stmt.Assign [PySem.Expr.Name (Str.ofString "rounds") _] _ _ :: _) _) _ _ _)); (fail_if_success (with_reducible show wpAny _ _ (call (Value.ref _) _ _) _ _ _)); (fail_if_success (with_reducible show wpAny _ _ (getMethod (Value.ref _) _ _) _ _ _)); (fail_if_success (with_reducible show wpAny _ _ (getAttr (Value.ref _) _ _) _ _ _)); (fail_if_success (with_reducible show wpAny _ _ (call (Value.ref _) _) _ _ _)); (fail_if_success (with_reducible show wpAny _ _ (exec (PySem.Stmt.Try _ _ _ _ _) _) _ _ _)); (fail_if_success (with_reducible show wpAny _ _ (execs [PySem.Stmt.If _ _ _ _, PySem.Stmt.If _ _ _ _] _) _ _ _)); (fail_if_success (with_reducible show wpAny _ _ (execs [PySem.Stmt.Assign _ _ _, PySem.Stmt.Assign _ _ _] _) _ _ _)); (fail_if_success (with_reducible show wpAny _ _ (exec (PySem.Stmt.For _ _ _ _ _) _) _ _ _)); (fail_if_success (with_reducible show wpAny _ _ (compareOp CmpOp.In _ (Value.ref _)) _ _ _)); (first | (k_unfold; (try dsimp only)) | (walk1 <;> (try dsimp only)))) | fail "no step"))
section
inductive Nest (K : Addr → Obj → Prop) : List Value → List (List Int) → Prop
  | nil : Nest K [] []
  | cons {r : Addr} {vs ts : List Value} {k : Nat} {ns : List Int} {rest : List (List Int)} (hr : K r (listO vs k)) (hv : IntsAre vs ns) (h : Nest K ts rest) : Nest K (.ref r :: ts) (ns :: rest)
theorem Nest.mono {K K' : Addr → Obj → Prop} {ts : List Value} {ls : List (List Int)} (x : Nest K ts ls) (k : ∀ a o, K a o → K' a o) : Nest K' ts ls := by
  induction x with
  | nil => exact .nil
  | cons hr hv _ ih => exact .cons (k _ _ hr) hv ih
theorem Nest.len {K : Addr → Obj → Prop} {ts : List Value} {ls : List (List Int)} (x : Nest K ts ls) : ts.length = ls.length := by
  induction x with
  | nil => rfl
  | cons _ _ _ ih => simp [ih]
theorem Nest.get {K : Addr → Obj → Prop} {ts : List Value} {ls : List (List Int)} (x : Nest K ts ls) : ∀ {i : Nat} {v : Value}, ts[i]? = some v → ∃ r vs k ns, v = .ref r ∧ ls[i]? = some ns ∧ K r (listO vs k) ∧ IntsAre vs ns := by
  induction x with
  | nil => intro i v e; simp at e
  | cons hr hv h ih =>
    intro i v e
    cases i with
    | zero => cases e; exact ⟨_, _, _, _, rfl, rfl, hr, hv⟩
    | succ i => exact ih (by simpa using e)
theorem Nest.of_paired {K : Addr → Obj → Prop} {ts : List Value} {ls : List (List Int)} (x : Paired (fun v d => ∃ a vs k, v = Value.ref a ∧ K a (listO vs k) ∧ IntsAre vs d) ts ls) : Nest K ts ls := by
  induction x with
  | nil => exact .nil
  | cons h _ ih => obtain ⟨a, vs, k, rfl, h1, h2⟩ := h; exact .cons h1 h2 ih
def cntOf (n len : Nat) : Nat := (max len 1 - 1) / n + 1
def chunk (n : Nat) (l : List Int) : List (List Int) := (List.range (cntOf n l.length)).map fun j => (l.drop (j * n)).take n
def heapsOf (n : Nat) (spans : List (List Int)) : List (List Int) := spans.flatMap (chunk n)
theorem range_flat {α β : Type} (f : List α → List β) : ∀ (ls : List (List α)), ((List.range ls.length).flatMap fun i => f (ls.getD i [])) = ls.flatMap f := by
  intro ls
  induction ls with
  | nil => rfl
  | cons l ls ih =>
    rw [List.length_cons, List.range_succ_eq_map, List.flatMap_cons, List.flatMap_map, List.flatMap_cons, ← ih]
    rfl
theorem max_keep {prog : Program} {w : World} {A : Around} {E : Value → Shared → Prop} {s : Shared} {g : Heap} {L : Addr} {m : Str → Option Value} {news : List (Addr × Obj)} {a b : Int} {t u : Tok} {Q : Value → Shared → Prop} (hh : A.handled = none) (F : Fr g L s.heap m) (N : News g L s.heap news)
    (h : ∀ h' tk tt, Mod [] s.heap h' → Fr g L h' m → News g L h' news → Q (.int (max a b) tt) { s with heap := h', toks := tk }) : wpAny (model prog w) A (call (.builtin "max") [.int a t, .int b u]) Q E s := by
  refine max_two_ints hh fun h' tk hk => ?_
  have key := fun tt => h h' tk tt (fun b o _ e => hk b o e) (F.keeps hk) (N.grown hk)
  by_cases c : b > a
  · rw [if_pos c]; rw [Int.max_eq_right (Int.le_of_lt c)] at key; exact key _
  · rw [if_neg c]; rw [Int.max_eq_left (Int.not_lt.mp c)] at key; exact key _
local macro_rules | `(tactic| walk_at "call builtin:max") => `(tactic| (k_here; k_dflt (refine' max_keep rfl ?F ?N ?_; (case F => k_asm); (case N => k_asm)); (intro h' tk' tt' M' F' N')))
theorem range_cnt {n len : Nat} (hn : 1 ≤ n) : Builtin.Range.rangeSize 0 (max (len : Int) 1) n = ((cntOf n len : Nat) : Int) := by
  unfold Builtin.Range.rangeSize cntOf
  rw [if_pos (by omega), if_pos (by omega)]
  have e : max (len : Int) 1 - 0 - 1 = ((max len 1 - 1 : Nat) : Int) := by omega
  rw [e, ← Int.natCast_ediv]
  rfl
theorem chunk_eq {ns : List Int} {n j : Nat} : (ns.drop (clipAt ns.length (0 + (j : Int) * n))).take (clipAt ns.length (0 + (j : Int) * n + n) - clipAt ns.length (0 + (j : Int) * n)) = (ns.drop (j * n)).take n := by
  have e0 : (0 : Int) + (j : Int) * n = ((j * n : Nat) : Int) := by rw [Int.zero_add]; rfl
  rw [e0]
  have c1 := clipAt_min (n := ns.length) (y := ((j * n : Nat) : Int)) (Int.natCast_nonneg _)
  have c2 := clipAt_min (n := ns.length) (y := ((j * n : Nat) : Int) + n) (by omega)
  generalize j * n = q at *
  by_cases h : ns.length ≤ q
  · rw [List.drop_eq_nil_of_le h, List.drop_eq_nil_of_le (by split at c1 <;> omega)]
    simp
  · have e1 : clipAt ns.length ((q : Nat) : Int) = q := by split at c1 <;> omega
    rw [e1, List.take_eq_take_iff, List.length_drop]
    split at c2 <;> omega
local macro_rules | `(tactic| walk_at "bf gs") => `(tactic| repeat' (first | ((fail_if_success (with_reducible show wpAny _ _ (subscriptTail _ _ (Value.ref _) (Value.ref _)) _ _ _)); (first | (k_unfold; (try dsimp only)) | (walk1 <;> (try dsimp only)))) | fail "no step"))
theorem heaps_spec {w : World} {A : Around} {R : Result → Shared → Prop} {s : Shared} {lc : Addr} {ts : List Value} {cap n : Nat} {tn : Tok} {spans : List (List Int)}
    (O : Wd w s.heap) (hr : Room A 3) (hc : s.heap.get? lc = some (listO ts cap)) (C : Nest (fun a o => s.heap.get? a = some o) ts spans) (hn : 1 ≤ n ∧ n < 1000) (hz : spans.length ≤ 900) (hz2 : ∀ l ∈ spans, l.length ≤ 900)
    (ret : ∀ D ys h' tk', Mod [] s.heap h' → s.heap.get? D = none → h'.get? D = some (LCg.lst ys) → Nest (fun a o => h'.get? a = some o ∧ s.heap.get? a = none ∧ a ≠ D) ys (heapsOf n spans) → R (.ok (.ret (.ref D))) { s with heap := h', toks := tk' }) :
    codeAny (model PySem.Challenge.rw_sv0019_01.row.prog w) A (.call (.ref 547) ⟨[.ref lc, .int (n : Nat) tn], []⟩) R s := by
  obtain ⟨hd0, dp0, fr0, gd0, un0⟩ := A
  obtain rfl : hd0 = none := hr.hd
  have O' : On w s.heap s.heap := ⟨O, fun _ _ e => e⟩
  have Al : AllAt s.heap s.heap [] := List.forall_mem_nil _
  refine' enterC _ O' Al ?ho ?hcd ?hroom ?hbind ?hkind ?hnd ?_ ?c1 ?c2 ?c3
  case ho => k_is
  case hcd => k_is
  case hroom => exact hr.lt
  case hbind => exact BindsTo.of_eq rfl
  case hkind => exact rfl
  case hnd => decide +kernel
  case c1 => exact rfl
  case c2 => exact rfl
  case c3 => exact rfl
  intro g L' h₁ tk cells p₁ loose mean mg mb hg0 hg2 hk1 F N Y lL sL X T
  k_cells Y
  (try simp only [List.cons_append, List.nil_append] at N)
  (try dsimp only); (try k_fold)
  have hl0 : s.heap.IsList lc ts.toArray := ⟨_, hc, rfl, cap, rfl⟩
  have hll : g.IsList lc ts.toArray := hl0.at fun o e => hg0 _ _ e
  have hcl : ∀ i, cntOf n ((spans.getD i []).length) ≤ 1000 := fun i => by
    have : (spans.getD i []).length ≤ 900 := by
      rw [List.getD_eq_getElem?_getD]
      cases q : spans[i]? with
      | none => simp
      | some l => exact hz2 l (List.mem_of_getElem? q)
    have : (max (spans.getD i []).length 1 - 1) / n ≤ max (spans.getD i []).length 1 - 1 := Nat.div_le_self _ _
    show (max (spans.getD i []).length 1 - 1) / n + 1 ≤ 1000
    omega
  walk_at "bf tocomp"
  refine two_comp (ax := lc) (its := ts.toArray) (fun v d K => ∃ a vs k, v = Value.ref a ∧ K a (listO vs k) ∧ IntsAre vs d) (fun i j => ((spans.getD i []).drop (j * n)).take n) (fun i => cntOf n (spans.getD i []).length) (fun i j v => ∃ t, v = .int (0 + (j : Int) * (n : Int)) t)
    (fun v d K K' k ⟨a, vs, kk, e, q, r⟩ => ⟨a, vs, kk, e, k _ _ q, r⟩) rfl (by with_unfolding_all rfl) (by decide) (by rfl) (by decide) (by rfl) (by rfl) (by decide) hcl (by rw [List.size_toArray, C.len]; omega) ?_
  (walk1; (try dsimp only))
  refine ⟨rfl, Fr.lst F hll, ⟨?src, ?el, ?fin⟩⟩
  case src =>
    intro i v h' tk0 Cc m' hv M nC hnC hxC
    obtain ⟨r, vs, k, ns, rfl, hi, hr0, hiv⟩ := C.get (show ts[i]? = some v by simpa using hv)
    have hnl : ns.length ≤ 900 := hz2 ns (List.mem_of_getElem? hi)
    have hvl : vs.length = ns.length := hiv.length
    have hlr : g.IsList r vs.toArray := ⟨_, hg0 _ _ hr0, rfl, k, rfl⟩
    have F' := fr_mod0 F M
    obtain ⟨oC, eC, hoC⟩ := LCg.ns_obj hnC
    have N' := news_add (news_mod0 N M) eC (fr_new F nC)
    clear F N
    walk_at "bf go"
    · rename Mod [] _ _ => M1
      rename_i _ _ _ _ _ _ _ _ hk
      exact M1.trans fun b o _ e => hk b o e
    · rename Mod [] _ _ => M1
      rename IsRange _ _ _ _ _ _ _ _ => IR
      have eg : spans.getD i [] = ns := by rw [List.getD_eq_getElem?_getD, hi]; rfl
      have es : Builtin.Range.rangeSize 0 (max ((vs.toArray.size : Nat) : Int) 1) n = ((cntOf n ns.length : Nat) : Int) := by
        rw [List.size_toArray, hvl]; exact range_cnt hn.1
      have hcc : cntOf n ns.length ≤ 1000 := eg ▸ hcl i
      refine wpAny_pyIter_range IR ?_ ?_
      · unfold Builtin.Range.small
        rw [es]
        simp only [Builtin.Range.rangeFitsLong, Bool.and_eq_true, Bool.or_eq_true, decide_eq_true_eq, beq_iff_eq]
        rw [if_pos (show (n : Int) > 0 by omega)]
        simp only [Bool.and_eq_true, decide_eq_true_eq, List.size_toArray]
        omega
      · rw [es, eg]
        refine ⟨_, _, _, _, _, rfl, rfl, Heap.get?_none_of_le (Nat.le_refl _), ?_, fun b o _ e => Heap.get?_push_of_some _ e, Walks.range rfl _ 0 n _, ?_, ?_⟩
        · intro j h st
          exact ⟨_, st⟩
        · show IsRangeIter _ _ _ _ _
          simpa using Heap.get?_push_size _ rfl
        · intro b hb
          exact .inl (List.mem_singleton.mp hb)
  case el =>
    intro i j v u h' tk0 Cc m' hv hj hu M nC hnC hxC hyC
    obtain ⟨r, vs, k, ns, rfl, hi, hr0, hiv⟩ := C.get (show ts[i]? = some v by simpa using hv)
    obtain ⟨tu, rfl⟩ := hu
    have hnl : ns.length ≤ 900 := hz2 ns (List.mem_of_getElem? hi)
    have hvl : vs.length = ns.length := hiv.length
    have hlr : g.IsList r vs.toArray := ⟨_, hg0 _ _ hr0, rfl, k, rfl⟩
    have F' := fr_mod0 F M
    obtain ⟨oC, eC, hoC⟩ := LCg.ns_obj hnC
    have N' := news_add (news_mod0 N M) eC (fr_new F nC)
    clear F N
    walk_at "bf gs"
    refine slice_listK (s := ⟨h', _, _, _, _⟩) (Fr.lst F' hlr) (by kmk_part) (by kmk_part) ?_ (by with_unfolding_all rfl) (fun _ => by with_unfolding_all rfl) (by rw [sizeLine_eq, List.size_toArray]; omega)
    have eg : spans.getD i [] = ns := by rw [List.getD_eq_getElem?_getD, hi]; rfl
    refine ⟨_, _, rfl, fun b o _ e => Heap.get?_push_of_some _ (Heap.get?_push_of_some _ e), _, (slicePick vs.toArray (some (0 + (j : Int) * n)) (some (0 + (j : Int) * n + n)) none).toList, 0, rfl, ⟨?_, fresh_above _ 1⟩, ?_⟩
    · have z := fun (A B : Obj) (q : B.isFreed = false) => Heap.get?_push_size (h'.push A) (o := B) q
      have z1 := fun A => z A ({ cls := .type "list", data := .seq (slicePick vs.toArray (some (0 + (j : Int) * n)) (some (0 + (j : Int) * n + n)) none) }) rfl
      simp only [Heap.size_push] at z1
      simpa [listO] using z1 _
    · rw [eg, ← chunk_eq]
      exact slice_ints_plain hiv _ _
  case fin =>
    intro D h' tk' ys M nD hD hp
    have M0 : Mod [] s.heap h' := fun b o _ e => M b o (fun z => nomatch z) (hk1 b o e)
    have n0 : ∀ {a : Addr}, h₁.get? a = none → s.heap.get? a = none := fun {a} z => by
      cases q : s.heap.get? a with
      | none => rfl
      | some o => rw [hk1 _ _ q] at z; cases z
    refine ret D ys h' tk' M0 (n0 nD) hD ?_
    have el : ((List.range ts.toArray.size).flatMap fun i => (List.range (cntOf n (spans.getD i []).length)).map fun j => ((spans.getD i []).drop (j * n)).take n) = heapsOf n spans := by
      rw [List.size_toArray, C.len]
      exact range_flat (chunk n) spans
    rw [el] at hp
    exact Nest.mono (Nest.of_paired (K := fun a o => h'.get? a = some o ∧ h₁.get? a = none ∧ a ≠ D) hp) fun a o z => ⟨z.1, n0 z.2.1, z.2.2⟩
end
section
local macro_rules | `(tactic| walk_at "bf none") => `(tactic| skip)
section
variable {prog : Program} {w : World} {A : Around} {h₀ : Heap} {L : Addr} {m : Str → Option Value} {env : Env} {elt : PySem.Expr} {x : Str} {scope : Scope} {cl : List (Str × Addr)} {s : Shared} {S : List (Addr × Obj) → Prop} {P : Nat → Value → Prop} {Fin : List Value → List (Addr × Obj) → Prop} {news : List (Addr × Obj)}
theorem bools_are : ∀ (bs : List Bool), LSm.BoolsAre (bs.map Value.bool) bs
  | [] => .nil
  | _ :: bs => .cons _ (bools_are bs)
theorem kcb_rest {n : Nat} (gb : Nat → Bool)
    (turn : ∀ i v I oI C oC D m₂ ys h tk (E' : Value → Shared → Prop), i < n → P i v → LCg.NsObj oC m₂ → m₂ x = some v → Fr h₀ L h m → News h₀ L h ((I, oI) :: (C, oC) :: (D, LCg.lst ys) :: news) → LCg.Off3 I C D news → ((@Ne Nat I C) ∧ (@Ne Nat I D) ∧ (@Ne Nat C D)) →
      wpAny (model prog w) A (eval elt (compEnvC scope cl C env)) (LCg.CompEnd h₀ L m { s with heap := h, toks := tk } I oI C oC D (LCg.lst ys) S (fun y news' => y = .bool (gb i) ∧ news' = news)) E' { s with heap := h, toks := tk })
    (fin : ∀ ys, LSm.BoolsAre ys ((List.range n).map gb) → Fin ys news) : LCg.CompRest prog w A h₀ L m env elt x scope cl s S P Fin n 0 [] news := by
  have key : ∀ (j i : Nat) (ys : List Value), i + j = n → ys = ((List.range i).map gb).map Value.bool → LCg.CompRest prog w A h₀ L m env elt x scope cl s S P Fin j i ys news := by
    intro j
    induction j with
    | zero =>
      intro i ys hi hy
      have e : i = n := by omega
      subst e
      subst hy
      exact LCg.CompRest.zero (fin _ (bools_are _))
    | succ j ih =>
      intro i ys hi hy
      refine LCg.CompRest.succ ?_
      intro v I oI C oC D m₂ h tk E' hv hC hx F N off ne
      refine wpAny_mono (turn i v I oI C oC D m₂ ys h tk E' (by omega) hv hC hx F N off ne) (fun y s₂ hq => ?_) fun _ _ e => e
      obtain ⟨h', tk', nw, e, F', N', off', hS, rfl, hn⟩ := hq
      rw [hn] at N' off' hS
      refine ⟨h', tk', news, e, F', N', off', hS, ?_⟩
      refine ih (i + 1) _ (by omega) ?_
      rw [hy, List.range_succ]
      simp
  exact key n 0 [] (by omega) rfl
end
def toldP (heaps rows : List (List Int)) (row : List Int) : Bool := heaps.any fun hp => row.all fun c => (hp.flatMap fun j => rows.getD j.toNat []).any (· == c)
theorem item_at {prog : Program} {w : World} {A : Around} {E : Value → Shared → Prop} {s : Shared} {value slice : PySem.Expr} {l : Addr} {ts : List Value} {x : Value} {k : Int} {u : Tok} {Q : Value → Shared → Prop}
    (hl : s.heap.IsList l ts.toArray) (h0 : 0 ≤ k) (hx : ts[k.toNat]? = some x) (hsz : ts.length < 1000) (h : Q x s)
    (hs : subscripted slice false (.ref l) (.int k u) = operate [.ref l, .int k u] (getItem (.ref l) (.int k u)) := by with_unfolding_all rfl) :
    wpAny (model prog w) A (subscriptTail value slice (.ref l) (.int k u)) Q E s := by
  have hlt := (List.getElem?_eq_some_iff.mp hx).1
  exact tail_any hl.typeIs slot_list_getitem.lookup (wpAny_getItem_list hl (by omega) (by omega) (by simpa using hx) h) hs
theorem range_getD : ∀ (l : List Int), ((List.range l.length).map fun i => l.getD i 0) = l := by
  intro l
  induction l with
  | nil => rfl
  | cons x l ih =>
    rw [List.length_cons, List.range_succ_eq_map, List.map_cons, List.map_map]
    simp only [List.getD_cons_zero]
    congr 1
theorem range_flat0 {β : Type} (f : Int → List β) : ∀ (ls : List Int), ((List.range ls.length).flatMap fun i => f (ls.getD i 0)) = ls.flatMap f := by
  intro ls
  induction ls with
  | nil => rfl
  | cons l ls ih =>
    rw [List.length_cons, List.range_succ_eq_map, List.flatMap_cons, List.flatMap_map, List.flatMap_cons, ← ih]
    rfl
theorem any_take_succG {α : Type} {hs : List α} {i : Nat} {f : α → Bool} (hi : i < hs.length) : (hs.take (i + 1)).any f = ((hs.take i).any f || f hs[i]) := by
  rw [List.take_add_one, List.any_append, List.getElem?_eq_getElem hi]
  simp
theorem ints_of_paired {ys : List Value} {ds : List Int} (x : Paired (fun v d => ∃ t, v = Value.int d t) ys ds) : IntsAre ys ds := by
  induction x with
  | nil => exact .nil
  | cons h _ ih => obtain ⟨tt, rfl⟩ := h; exact .cons _ tt ih
theorem walks_P {prog : Program} {w : World} {A : Around} {I : Addr} {fp wr : List Addr} {n : Nat} {P P' : Nat → Value → Prop} {St : Nat → Heap → Prop} (W : Walks prog w A I fp wr n P St) (k : ∀ i v, P i v → P' i v) : Walks prog w A I fp wr n P' St where
  sub := W.sub
  frame := W.frame
  done := W.done
  self := W.self
  item := fun i s Q E hi st hQ => W.item i s Q E hi st fun v h' tk hP => hQ v h' tk (k i v hP)
local macro_rules | `(tactic| walk_at "bf gs") => `(tactic| repeat' (first | ((fail_if_success (with_reducible show wpAny _ _ (subscriptTail _ _ (Value.ref _) _) _ _ _)); (first | (k_unfold; (try dsimp only)) | (walk1 <;> (try dsimp only)))) | fail "no step"))
local macro_rules | `(tactic| walk_at "bf stp") => `(tactic| repeat' (first | ((fail_if_success (with_reducible show wpAny _ _ (call (Value.builtin "all") _) _ _ _)); (first | (k_unfold; (try dsimp only)) | (walk1 <;> (try dsimp only)))) | fail "no step"))
theorem told_spec {w : World} {A : Around} {R : Result → Shared → Prop} {s : Shared} {lh lr lw : Addr} {hts rts wvs : List Value} {c1 c2 c3 : Nat} {heaps rows : List (List Int)} {row : List Int}
    (O : Wd w s.heap) (hr : Room A 3) (hh : s.heap.get? lh = some (listO hts c1)) (H : Nest (fun a o => s.heap.get? a = some o) hts heaps) (hrw : s.heap.get? lr = some (listO rts c2)) (RR : Nest (fun a o => s.heap.get? a = some o) rts rows)
    (hw : s.heap.get? lw = some (listO wvs c3)) (hwi : IntsAre wvs row) (hj : ∀ hp ∈ heaps, ∀ j ∈ hp, 0 ≤ j ∧ j < (rows.length : Int)) (z1 : heaps.length < 1000) (z2 : ∀ l ∈ heaps, l.length < 1000) (z3 : rows.length < 1000) (z4 : ∀ l ∈ rows, l.length < 1000) (z5 : row.length < 1000)
    (ret : ∀ h' tk', Mod [] s.heap h' → R (.ok (.ret (.bool (toldP heaps rows row)))) { s with heap := h', toks := tk' }) :
    codeAny (model PySem.Challenge.rw_sv0019_01.row.prog w) A (.call (.ref 552) ⟨[.ref lh, .ref lr, .ref lw], []⟩) R s := by
  obtain ⟨hd0, dp0, fr0, gd0, un0⟩ := A
  obtain rfl : hd0 = none := hr.hd
  have O' : On w s.heap s.heap := ⟨O, fun _ _ e => e⟩
  have Al : AllAt s.heap s.heap [] := List.forall_mem_nil _
  refine' enterC _ O' Al ?ho ?hcd ?hroom ?hbind ?hkind ?hnd ?_ ?c1 ?c2 ?c3
  case ho => k_is
  case hcd => k_is
  case hroom => exact hr.lt
  case hbind => exact BindsTo.of_eq rfl
  case hkind => exact rfl
  case hnd => decide +kernel
  case c1 => exact rfl
  case c2 => exact rfl
  case c3 => exact rfl
  intro g L' h₁ tk cells p₁ loose mean mg mb hg0 hg2 hk1 F N Y lL sL X T
  k_cells Y
  (try simp only [List.cons_append, List.nil_append] at N)
  (try dsimp only); (try k_fold)
  (walk1; (try dsimp only))
  rename_i oP oR dP dR
  have k0 : ∀ b o, s.heap.get? b = some o → g.get? b = some o := hg0
  have hll : g.IsList lh hts.toArray := ⟨_, k0 _ _ hh, rfl, c1, rfl⟩
  have hlw : g.IsList lw wvs.toArray := ⟨_, k0 _ _ hw, rfl, c3, rfl⟩
  have hlr : g.IsList lr rts.toArray := ⟨_, k0 _ _ hrw, rfl, c2, rfl⟩
  obtain ⟨m0, em0, F0⟩ := named F
  refine For_listX (g := g) (vs := hts) (m := m0) rfl rfl rfl (fun l it i m s' => l = lh ∧ g.get? it = none ∧ it ≠ L' ∧ it ≠ L' + 1 ∧ it ≠ L' + 1 + 1 ∧ (∃ h tk, s' = { s with heap := h, toks := tk }) ∧ (∃ u, m = fun y => if y = Str.ofString "heap" then u else m0 y) ∧
    (∃ oP oR, News g L' s'.heap [(L' + 1 + 1, oP), (L' + 1, oR)] ∧ (∃ x, oP.data = .cell x) ∧ oR.data = .cell (some (.ref lr))) ∧ toldP (heaps.take i) rows row = false) ?start ?turn ?done
  case start =>
    subst em0
    clear F0
    (walk1; (try dsimp only))
    refine ⟨lh, rfl, hll.at fun o e => F.keep _ _ e, fun z => ?_, F, fun it h' n hit M => ?_⟩
    · have h2 := k0 _ _ hh
      rw [show lh = L' from z, Heap.get?_none_of_le F.above] at h2
      cases h2
    have ng := g_new F.keep n
    have nL : it ≠ L' := fun z => by
      obtain ⟨o, _, _, ho, _⟩ := F.ns
      rw [← z, n] at ho; cases ho
    have nC : it ≠ L' + 1 := fun z => by
      have := (N _ (.tail _ (.head _))).1
      rw [← z, n] at this; cases this
    have nP : it ≠ L' + 1 + 1 := fun z => by
      have := (N _ (.head _)).1
      rw [← z, n] at this; cases this
    refine ⟨rfl, ng, nL, nC, nP, ⟨h', tk, rfl⟩, ⟨none, ?_⟩, ⟨oP, oR, news_mod0 N M, ⟨_, dP⟩, dR⟩, rfl⟩
    funext y
    by_cases h1 : y = Str.ofString "heap"
    · subst h1; rfl
    · rw [if_neg h1]
  case turn =>
    have hh0 := hh
    rintro l it i v m s' h₂ tk₂ hne _ hv ⟨rfl, ng, nL, nC, nP, ⟨h', tk', rfl⟩, ⟨u, rfl⟩, ⟨oP2, oR2, N3, ⟨x2, dP2⟩, dR2⟩, hany⟩ F4 M3 ⟨oI, hoI⟩
    dsimp only at *
    obtain ⟨r, vs, kk, hp, rfl, hi, hr1, hv1⟩ := H.get hv
    have N4 := news_mod N3 M3 (fun p hp z => by
      rcases List.mem_cons.mp hp with rfl | hp
      · rcases List.mem_cons.mp z with z | z
        · exact absurd z (by show L' + 1 + 1 ≠ L'; exact Nat.ne_of_gt (Nat.lt_succ_of_lt (Nat.lt_succ_self _)))
        · exact nP (List.mem_singleton.mp z).symm
      · rw [List.mem_singleton.mp hp] at z
        rcases List.mem_cons.mp z with z | z
        · exact absurd z (by show L' + 1 ≠ L'; exact Nat.ne_of_gt (Nat.lt_succ_self _))
        · exact nC (List.mem_singleton.mp z).symm)
    have N4 := news_add N4 hoI ⟨nL, ng⟩
    have n9 := neN nC
    have n8 := neN nP
    have hlp : g.IsList r vs.toArray := ⟨_, k0 _ _ hr1, rfl, kk, rfl⟩
    have hpl : vs.length = hp.length := hv1.length
    have hp1 := z2 hp (List.mem_of_getElem? hi)
    have hpj := hj hp (List.mem_of_getElem? hi)
    have kl0 : h₂.get? l = some (listO hts c1) := F4.keep _ _ (k0 _ _ hh0)
    subst em0
    clear F N F0
    walk_at "bf tocomp"
    refine two_comp (ax := r) (its := vs.toArray) (fun v d K => ∃ t, v = Value.int d t) (fun i j => (rows.getD (hp.getD i 0).toNat []).getD j 0) (fun i => (rows.getD (hp.getD i 0).toNat []).length) (fun i j v => ∃ t, v = .int ((rows.getD (hp.getD i 0).toNat []).getD j 0) t)
      (fun v d K K' k ⟨t, e⟩ => ⟨t, e⟩) rfl (by with_unfolding_all rfl) (by decide) (by rfl) (by decide) (by rfl) (by rfl) (by decide) ?hcl (by rw [List.size_toArray]; omega) ?_
    case hcl =>
      intro i
      rw [List.getD_eq_getElem?_getD]
      cases q : rows[(hp.getD i 0).toNat]? with
      | none => simp
      | some l => exact Nat.le_of_lt (z4 l (List.mem_of_getElem? q))
    (walk1; (try dsimp only))
    refine ⟨rfl, Fr.lst F4 hlp, ⟨?src, ?el, ?fin⟩⟩
    case src =>
      intro i v h' tk0 Cc m' hv M nC hnC hxC
      obtain ⟨jv, tj, rfl, hjv⟩ := IntsAre.at hv1 i v (by simpa using hv)
      obtain ⟨j0, j1⟩ := hpj jv (List.mem_of_getElem? hjv)
      have F' := fr_mod0 F4 M
      obtain ⟨oC, eC, hoC⟩ := LCg.ns_obj hnC
      have N' := news_add (news_mod0 N4 M) eC (fr_new F4 nC)
      have rl := RR.len
      obtain ⟨va, hva⟩ : ∃ va, rts[jv.toNat]? = some va := ⟨_, List.getElem?_eq_getElem (by omega)⟩
      obtain ⟨a2, vs2, k2, ns2, rfl, hr2, hb2, hi2⟩ := RR.get hva
      have eg : rows.getD (hp.getD i 0).toNat [] = ns2 := by
        rw [List.getD_eq_getElem?_getD, List.getD_eq_getElem?_getD, hjv]
        show (rows[jv.toNat]?).getD [] = ns2
        rw [hr2]; rfl
      have kp2 : ∃ o, h₂.get? a2 = some o := ⟨_, F4.keep _ _ (k0 _ _ hb2)⟩
      clear F4 N4
      walk_at "bf gs"
      refine item_at (Fr.lst F' hlr) j0 hva (by omega) ?_
      refine ⟨_, _, rfl, Mod.refl _ _, ?_⟩
      have hla : h'.IsList a2 vs2.toArray := ⟨_, F'.keep _ _ (k0 _ _ hb2), rfl, k2, rfl⟩
      have hlt : a2 < h'.objs.size := Heap.lt_size (F'.keep _ _ (k0 _ _ hb2))
      refine wpAny_pyIter_list hla ?_
      have e2 : vs2.toArray.size = ns2.length := by rw [List.size_toArray]; exact hi2.length
      rw [eg, ← e2]
      refine ⟨_, _, _, _, _, rfl, rfl, Heap.get?_none_of_le (Nat.le_refl _), ?_, fun b o _ e => Heap.get?_push_of_some _ e, walks_P (Walks.list rfl h'.objs.size a2 (Nat.ne_of_lt hlt) vs2.toArray) ?_, ?_, ?_⟩
      · intro j h st
        obtain ⟨o, e, _⟩ := st.1
        exact ⟨o, e⟩
      · intro j v hv
        obtain ⟨d, td, rfl, hd⟩ := IntsAre.at hi2 j v (by simpa using hv)
        refine ⟨td, ?_⟩
        rw [List.getD_eq_getElem?_getD, hd]; rfl
      · exact ⟨⟨_, Heap.get?_push_size _ rfl, rfl, rfl⟩, hla.push _⟩
      · intro b hb
        rcases List.mem_cons.mp hb with rfl | hb
        · exact .inl rfl
        · rw [List.mem_singleton.mp hb]
          exact .inr kp2
    case el =>
      intro i j v u h' tk0 Cc m' hv hj hu M nC hnC hxC hyC
      obtain ⟨tu, rfl⟩ := hu
      have F' := fr_mod0 F4 M
      obtain ⟨oC, eC, hoC⟩ := LCg.ns_obj hnC
      have N' := news_add (news_mod0 N4 M) eC (fr_new F4 nC)
      clear F4 N4
      walk_at "bf gs"
      exact Mod.refl _ _
    case fin =>
      intro D h' tk0 ys M nD hD hpy
      have hys : IntsAre ys (hp.flatMap fun j => rows.getD j.toNat []) := by
        have e1 : ∀ (qs : List Int), ((List.range qs.length).map fun j => qs.getD j 0) = qs := range_getD
        have e2 : ((List.range vs.toArray.size).flatMap fun i => (List.range (rows.getD (hp.getD i 0).toNat []).length).map fun j => (rows.getD (hp.getD i 0).toNat []).getD j 0) = hp.flatMap fun j => rows.getD j.toNat [] := by
          rw [List.size_toArray, hpl]
          simp only [e1]
          exact range_flat0 (fun j => rows.getD j.toNat []) hp
        rw [e2] at hpy
        exact ints_of_paired hpy
      have F' := fr_mod0 F4 M
      have N' := news_add (news_mod0 N4 M) hD (fr_new F4 nD)
      have d1 := neN (ne_new (N4 _ (.head _)).1 nD)
      have d2 := neN (ne_new (N4 _ (.tail _ (.head _))).1 nD)
      have d3 := neN (ne_new (N4 _ (.tail _ (.tail _ (.head _)))).1 nD)
      clear F4 N4
      walk_at "bf tocomp"
      walk_at "bf comp"
      walk1
      rename Fr _ _ _ _ => F6
      rename News _ _ _ _ => N6
      have hwl : wvs.length = row.length := hwi.length
      refine LCg.CompSrc.base rfl F6 N6 hlw (by rw [PySem.sizeLine_eq, List.size_toArray]; omega) ?_
      intro g'
      refine kcb_rest (fun i => (hp.flatMap fun j => rows.getD j.toNat []).any (· == row.getD i 0)) ?celt ?cfin
      case celt =>
        intro i v I oI C' oC D2 m₂ ys2 h5 tk5 E' hi5 hv5 hC5 hx5 F7 N7 off5 ne5
        obtain ⟨jv, tj, rfl, hjv⟩ := IntsAre.at hwi i v (by simpa using hv5)
        have eg : row.getD i 0 = jv := by rw [List.getD_eq_getElem?_getD, hjv]; rfl
        rw [eg]
        clear F6 N6
        have off6 := off5
        (try simp only [LCg.Off3, and_true] at off5)
        walk_at "bf gs"
        all_goals exact LCg.CompEnd.intro F7 N7 _ (fun p hp => hp) off6 (.inl hlw) ⟨rfl, rfl⟩
      case cfin =>
        intro ys2 hb2
        have eall : ((List.range wvs.toArray.size).map fun i => (hp.flatMap fun j => rows.getD j.toNat []).any (· == row.getD i 0)).all id = row.all fun c => (hp.flatMap fun j => rows.getD j.toNat []).any (· == c) := by
          rw [List.size_toArray, hwl]
          conv => rhs; rw [← range_getD row]
          rw [List.all_map, List.all_map]
          rfl
        clear F6 N6
        walk_at "bf stp"
        refine LSm.all_bools (by k_asm) (by k_asm) (by rfl) (News.isList (by k_asm) (by k_mem)) hb2 ?_
        intro h8 tk8 F8 N8
        rw [eall]
        walk_at "bf go"
        · rename (List.all _ _) = true => hc8
          have := ret h8 tk8 (mod_of [] hg2 F8 N8 Al (fun p hp _ => nomatch hp))
          rw [show toldP heaps rows row = true from List.any_eq_true.mpr ⟨hp, List.mem_of_getElem? hi, hc8⟩] at this
          exact this
        · rename ¬ (List.all _ _) = true => hc8
          refine ⟨⟨_, F8, by first | trivial | rfl, ng, nL, nC, nP, ⟨_, _, rfl⟩, ⟨some (.ref r), ?_⟩, ⟨_, _, fun p hp => N8 p ?_, ⟨_, ‹_ = Data.cell (some (Value.ref D))›⟩, dR2⟩, ?_⟩, fun b hb o e => ?_⟩
          · funext y
            by_cases h1 : y = Str.ofString "heap"
            · rw [if_pos h1, if_pos h1]
            · rw [if_neg h1, if_neg h1, if_neg h1]
          · rcases List.mem_cons.mp hp with rfl | hp
            · exact .tail _ (.tail _ (.tail _ (.head _)))
            · rw [List.mem_singleton.mp hp]
              exact .tail _ (.tail _ (.tail _ (.tail _ (.head _))))
          · have hi' : i < heaps.length := (List.getElem?_eq_some_iff.mp hi).1
            unfold toldP at hany ⊢
            rw [any_take_succG hi', hany, Bool.false_or]
            rw [List.getElem?_eq_getElem hi'] at hi
            rw [Option.some.inj hi]
            exact eq_false_of_ne_true hc8
          · rcases List.mem_cons.mp hb with rfl | hb
            · rw [hoI] at e; cases e
              exact (N8 _ (.tail _ (.tail _ (.head _)))).1
            · rw [List.mem_singleton.mp hb] at e ⊢
              have h1 := k0 _ _ hh0
              rw [kl0] at e; cases e
              exact F8.keep _ _ h1
  case done =>
    rintro l it m s' h₂ tk₂ ⟨rfl, ng, nL, nC, nP, ⟨h', tk', rfl⟩, ⟨u, rfl⟩, ⟨oP2, oR2, N3, ⟨x2, dP2⟩, dR2⟩, hany⟩ F4 M3
    dsimp only at *
    have N4 := news_mod N3 M3 (fun p hp z => by
      rcases List.mem_cons.mp hp with rfl | hp
      · exact nP (List.mem_singleton.mp z).symm
      · rw [List.mem_singleton.mp hp] at z
        exact nC (List.mem_singleton.mp z).symm)
    subst em0
    clear N3 F N F0
    walk_at "bf go"
    have := ret h₂ tk₂ (mod_of [] hg2 F4 N4 Al (fun p hp _ => nomatch hp))
    rw [H.len, List.take_length] at hany
    rw [hany] at this
    exact this
end
section
theorem newEnv_G {M : Model} {A : Around} {E : Value → Shared → Prop} {s : Shared} {scope : Scope} {globals : Addr} {closure : List (Str × Addr)} {binds : List (Str × Value)} {qual : Str} {func : Option Addr} {code : Value} {builtins : Addr} {Q : Env → Shared → Prop}
    (hl : ∀ x ∈ binds, scope.names.lookup x.1 = some .local)
    (hQ : ∀ h', h'.Ns s.heap.objs.size (fun x => binds.reverse.lookup x) → (∀ b o, s.heap.get? b = some o → h'.get? b = some o) → (∀ n c, (n, c) ∈ cellsFrom (s.heap.objs.size + 1) scope.names [] → h'.IsCell c none ∧ s.heap.objs.size < c) →
      Q (newEnv scope s.heap.objs.size globals (cellsFrom (s.heap.objs.size + 1) scope.names closure) qual func code none builtins) { s with heap := h', toks := s.toks + binds.length })
    (hk : scope.kind = .function) : wpAny M A (newFunctionEnv scope globals closure binds qual func code none builtins) Q E s := by
  simp only [newFunctionEnv, Option.isSome_none, Bool.false_eq_true, if_false]
  refine wpAny_bind (wpAny_alloc ?_)
  refine wpAny_bind (wpAny_layCells _ (fun name kind cells => by cases hkc : kind == NameKind.cell <;> simp [hkc]) _ _ _ _ ?_)
  have ok := cellsFrom_ok scope.names (s.heap.push { cls := .type "frame", data := .dict #[] }) (s.heap.objs.size + 1) [] ⟨fun _ _ hm => (nomatch hm), List.Pairwise.nil⟩ (by rw [Heap.size_push]; exact Nat.le_refl _)
  rw [Heap.size_push] at ok
  rw [show ({ s with heap := s.heap.push { cls := .type "frame", data := .dict #[] } } : Shared).heap.objs.size = s.heap.objs.size + 1 from Heap.size_push ..]
  have ns0 : (pushCells (s.heap.push { cls := .type "frame", data := .dict #[] }) scope.names).Ns s.heap.objs.size (fun x => ([] : List (Str × Value)).reverse.lookup x) := (Heap.Ns.new s.heap (.type "frame")).keeps (pushCells_keeps _ _)
  refine wpAny_bind ?_
  refine wpAny_forIn_list _
    (fun rest _ s' => ∃ done h', binds = done ++ rest ∧ s' = { s with heap := h', toks := s.toks + done.length } ∧
      h'.Ns s.heap.objs.size (fun x => done.reverse.lookup x) ∧
      Heap.SameBut s.heap.objs.size (pushCells (s.heap.push { cls := .type "frame", data := .dict #[] }) scope.names) h') _ ?_ ?_ binds _
    ⟨[], _, rfl, rfl, ns0, Heap.SameBut.refl ..⟩
  · rintro ⟨name, v⟩ rest _ s' ⟨done, h', hb, rfl, hns, hsb⟩
    have hk' : Env.kindOf { scope, locals := s.heap.objs.size, globals, cells := cellsFrom (s.heap.objs.size + 1) scope.names closure, qual, func, code, frame := some s.heap.objs.size, builtins } name = some .local :=
      hl (name, v) (by rw [hb]; simp)
    have hp : (({ scope, locals := s.heap.objs.size, globals, cells := cellsFrom (s.heap.objs.size + 1) scope.names closure, qual, func, code, frame := some s.heap.objs.size, builtins } : Env).scope.kind == .class || (({ scope, locals := s.heap.objs.size, globals, cells := cellsFrom (s.heap.objs.size + 1) scope.names closure, qual, func, code, frame := some s.heap.objs.size, builtins } : Env).scope.kind == .module &&
        ({ scope, locals := s.heap.objs.size, globals, cells := cellsFrom (s.heap.objs.size + 1) scope.names closure, qual, func, code, frame := some s.heap.objs.size, builtins } : Env).locals != ({ scope, locals := s.heap.objs.size, globals, cells := cellsFrom (s.heap.objs.size + 1) scope.names closure, qual, func, code, frame := some s.heap.objs.size, builtins } : Env).globals)) = false := by
      show (scope.kind == .class || (scope.kind == .module && _)) = false
      rw [hk]; rfl
    simp only [storeName_local hk' hp]
    refine wpAny_bind (wpAny_nsSet hns fun h'' hns' hsb' => wpAny_pure ⟨done ++ [(name, v)], h'', by simp [hb], ?_, ?_, hsb.trans hsb'⟩)
    · simp [Nat.add_assoc]
    · rw [lookup_reverse_snoc]; exact hns'
  · rintro _ s' ⟨done, h', hb, rfl, hns, hsb⟩
    rw [List.append_nil] at hb; subst hb
    refine wpAny_pure (hQ h' hns (fun b o e => hsb.extBut b o (Nat.ne_of_lt (Heap.lt_size e)) (pushCells_keeps _ _ b o (Heap.get?_push_of_some _ e))) fun n c hm => ?_)
    have z := ok.empty n c hm
    have lt : s.heap.objs.size < c := z.2
    obtain ⟨o, e, d⟩ := z.1
    exact ⟨⟨o, hsb.extBut c o (Nat.ne_of_gt lt) e, d⟩, lt⟩
theorem enterG {w : World} {A : Around} {R : Result → Shared → Prop} {s : Shared} {h₀ : Heap} {name qual : Str} {params : Arguments} {body : List Stmt} {scope : Scope} {cl : List (Str × Addr)} {doc pm ctv : Value} {c' f : Addr} {args : Args} {binds : List (Str × Value)}
    (news : List (Addr × Obj))
    (O : On w h₀ s.heap) (N : AllAt h₀ s.heap news) (ho : (f, fnMade name qual params body scope cl doc pm c' ctv) ∈ news) (hcd : s.heap.CodeRec (.ref c') qual) (hroom : A.depth < recursionLimit)
    (hbind : BindsTo s (fnX name qual params body scope cl .none .none doc pm none (.ref c') ctv) args binds) (hloc : ∀ y ∈ binds, scope.names.lookup y.1 = some .local)
    (h : ∀ (g : Heap) (L' : Addr) (h₁ : Heap) (cells : List (Addr × Obj)) (p : Program) (loose : List Str) (mean : ExcName → Option Value) (mg mb : Str → Option Value),
      (∀ b o, h₀.get? b = some o → g.get? b = some o) → (∀ b o, b ∉ news.map (·.1) → s.heap.get? b = some o → g.get? b = some o) → (∀ b o, s.heap.get? b = some o → h₁.get? b = some o) →
      Fr g L' h₁ (fun y => binds.reverse.lookup y) → News g L' h₁ (cells ++ news) → CellsAre (fun _ => none) (cellsFrom (L' + 1) scope.names []) cells → (∀ p ∈ news, p.1 < L') → (hd1.heap_39 w.params).In g → Top p loose mean mg mb g →
      wpAny (model PySem.Challenge.rw_sv0019_01.row.prog w) (A.deeper (envX qual scope L' f (.ref c') (cellsFrom (L' + 1) scope.names cl))) (execs body (envX qual scope L' f (.ref c') (cellsFrom (L' + 1) scope.names cl)))
        (fun fl s' => R (.ok (.ret (match fl with | .ret v => v | _ => .none))) s')
        (fun _ _ => False)
        { s with heap := h₁, toks := s.toks + binds.length })
    (hco : scope.isCoroutine = false) (hgen : scope.isGenerator = false) (hk : scope.kind = .function) : codeAny (model PySem.Challenge.rw_sv0019_01.row.prog w) A (.call (.ref f) args) R s := by
  obtain ⟨⟨X₀, p, loose, mean, mg, mb, T⟩, st⟩ := O
  have nm : ∀ b o, h₀.get? b = some o → b ∉ news.map (·.1) := fun b o e q => by
    obtain ⟨p, hp, rfl⟩ := List.mem_map.mp q
    rw [(N p hp).2] at e; cases e
  have st' : ∀ b o, h₀.get? b = some o → (hideAll s.heap (news.map (·.1))).get? b = some o := fun b o e => hideAll_get _ (st b o e) (nm b o e)
  refine codeAny_call_function (fd := fnX name qual params body scope cl .none .none doc pm none (.ref c') ctv) (body := body) hroom (N _ ho).1 rfl hco hgen rfl hcd (hbind _ _ _ _ ?_)
  refine newEnv_G hloc (fun h₁ hns hk₁ hcells => ?_) hk
  refine ⟨(T.nolimit.keeps st).keeps hk₁, codeAny_func ?_⟩
  obtain ⟨cells, NC, Y⟩ := Cl.news (h₀ := s.heap) (h := h₁) (cm := fun _ => none) (Nat.le_refl _) hcells
  refine wpAny_mono (h (hideAll s.heap (news.map (·.1))) s.heap.objs.size h₁ cells p loose mean mg mb st' (fun b o hb e => hideAll_get _ e hb) hk₁ ⟨hns, fun b o e => hk₁ b o (of_hideAll _ e), Nat.le_of_eq (hideAll_size _ _)⟩ (fun p hp => ?_) Y (fun p hp => Heap.lt_size (N p hp).1) (X₀.keeps st') (T.keeps st')) (fun _ _ y => y) fun _ _ y => y.elim
  rcases List.mem_append.mp hp with hp | hp
  · refine ⟨(NC p hp).1, (NC p hp).2.1, ?_⟩
    cases q : (hideAll s.heap (news.map (·.1))).get? p.1 with
    | none => rfl
    | some o => have := of_hideAll _ q; rw [(NC p hp).2.2] at this; cases this
  · exact ⟨hk₁ _ _ (N p hp).1, Nat.ne_of_lt (Heap.lt_size (N p hp).1), hideAll_none _ (List.mem_map_of_mem hp)⟩
end
section
local macro_rules | `(tactic| walk_at "bf none") => `(tactic| skip)
def bodyAt (K : Frag) (f : Addr) : List Stmt := match K.lookup f with | some ⟨_, _, .func fd, _⟩ => (match fd.body with | .stmts b => b | _ => []) | _ => []
def scopeAt (K : Frag) (f : Addr) : Scope := match K.lookup f with | some ⟨_, _, .func fd, _⟩ => fd.scope | _ => default
def forBody (i : Nat) (b : List Stmt) : List Stmt := match b[i]? with | some (.For _ _ body _ _) => body | _ => []
noncomputable def lawEnv (w : World) (L : Addr) : Env := envOfC (Str.ofString "law") (scopeAt (hd1.heap_39 w.params) 557) L 557 (.ref 556)
theorem with_lookup {K : Frag} {f : Addr} {name qual : Str} {params : Arguments} {body : List Stmt} {scope : Scope} {dV kV doc pm cdv ct oc : Value} {an od : Option Addr} {osl : Array (Option Value)} {P : Prop} (ho : K.lookup f = some ⟨oc, od, .func (fnOf name qual params body scope dV kV doc pm an cdv ct), osl⟩)
    (h : bodyAt K f = body → scopeAt K f = scope → P) : P := h (by unfold bodyAt; rw [ho]) (by unfold scopeAt; rw [ho])
def spreadOf (PN : List Int) (i d : Nat) : List Int := (List.range d).map fun (k : Nat) => PN.getD (((10 + 8 * i + k) % PN.length : Nat)) 0 + (k : Int) * (i : Int)
structure SpreadAt (w : World) (g c : Heap) (f : Addr) (PN : List Int) : Prop where
  at_ : ∃ (c' pl lp : Addr) (name qual : Str) (params : Arguments) (body : List Stmt) (scope : Scope) (doc pm ctv : Value) (oc oP : Obj) (vs : Array Value) (t : Tok) (pv : List Value) (cap : Nat) (pos : Pos),
    (bodyAt (hd1.heap_39 w.params) 557)[2]? = some (.FunctionDef name params body [] none [] scope none name pos) ∧
    c.get? f = some (fnMade name qual params body scope [(Str.ofString "pool", pl)] doc pm c' ctv) ∧ g.get? f = none ∧
    c.get? c' = some oc ∧ g.get? c' = none ∧ oc.data = .fields vs ∧ vs[1]? = some (.str qual t) ∧
    c.get? pl = some oP ∧ g.get? pl = none ∧ oP.data = .cell (some (.ref lp)) ∧
    c.get? lp = some (listO pv cap) ∧ g.get? lp = none ∧ IntsAre pv PN ∧ PN ≠ [] ∧ PN.length ≤ 63 ∧ c' ≠ f ∧ pl ≠ f ∧ pl ≠ c' ∧ lp ≠ f ∧ lp ≠ c' ∧ lp ≠ pl
local macro_rules | `(tactic| walk_at "bf src") => `(tactic| repeat' (first | ((with_reducible show wpAny _ _ _ _ _ _); (walk1 <;> (try dsimp only))) | fail "no step"))
local macro_rules | `(tactic| walk_at "binaryOp Mult int int") => `(tactic| ((with_reducible refine mul_int ?_ (PySem.IntMulOk.of_right (PySem.intBits_le_64 (by omega) (by omega))))))
local macro_rules | `(tactic| walk_at "bf stl") => `(tactic| repeat' (first | ((fail_if_success (with_reducible show wpAny _ _ (subscriptTail _ _ (Value.ref _) _) _ _ _)); (first | (k_unfold; (try dsimp only)) | (walk1 <;> (try dsimp only)))) | fail "no step"))
theorem spread_HF {w : World} {g c : Heap} {f : Addr} {PN : List Int} (Og : On w g c) (S : SpreadAt w g c f PN) (i d : Nat) (hi : i < 5) (hd : d < 1000) (tk : Tok) : HF w c f d (.str ⟨#[97 + i]⟩ tk) (spreadOf PN i d) := by
  intro A R s t O hr ret
  obtain ⟨hd0, dp0, fr0, gd0, un0⟩ := A
  obtain rfl : hd0 = none := hr.hd
  obtain ⟨c', pl, lp, name, qual, params, body, scope, doc, pm, ctv, oc, oP, vs, tt, pv, cap, pos, hdef, a1, b1, a2, b2, d1, d2, a3, b3, d3, a4, b4, hpv, hne, hlen, e1, e2, e3, e4, e5, e6⟩ := S.at_
  revert hdef
  refine' with_lookup (K := hd1.heap_39 w.params) (f := 557) ?ho ?_
  case ho => k_is
  intro hB hS
  rw [hB]
  clear hB hS
  intro hdef
  dsimp only [List.getElem?_cons_succ, List.getElem?_cons_zero] at hdef
  cases hdef
  have Og' : On w g s.heap := ⟨Og.wd, fun b o e => O.stays b o (Og.stays b o e)⟩
  have Al : AllAt g s.heap [(f, _), (c', oc), (pl, oP), (lp, listO pv cap)] := List.forall_mem_cons.mpr ⟨⟨O.stays _ _ a1, b1⟩, List.forall_mem_cons.mpr ⟨⟨O.stays _ _ a2, b2⟩, List.forall_mem_cons.mpr ⟨⟨O.stays _ _ a3, b3⟩, List.forall_mem_cons.mpr ⟨⟨O.stays _ _ a4, b4⟩, List.forall_mem_nil _⟩⟩⟩⟩
  refine' enterG _ Og' Al (.head _) ?hcd ?hroom ?hbind ?hloc ?_ ?c1 ?c2 ?c3
  case hcd => exact ⟨c', oc, vs, tt, rfl, O.stays _ _ a2, d1, d2⟩
  case hroom => exact hr.lt
  case hbind => exact BindsTo.of_eq rfl
  case hloc => exact locs rfl
  case c1 => exact rfl
  case c2 => exact rfl
  case c3 => exact rfl
  intro g1 L' h₁ cells p₁ loose mean mg mb hg0 hg2 hk1 F N Y lL X T
  k_cells Y
  (try simp only [List.cons_append, List.nil_append] at N)
  (try dsimp only)
  have f1 := neN e1
  have f2 := neN e2
  have f3 := neN e3
  have f4 := neN e4
  have f5 := neN e5
  have f6 := neN e6
  have g1' : f < L' + 1 := Nat.lt_succ_of_lt (lL _ (.head _))
  have g2' : c' < L' + 1 := Nat.lt_succ_of_lt (lL _ (.tail _ (.head _)))
  have g3' : pl < L' + 1 := Nat.lt_succ_of_lt (lL _ (.tail _ (.tail _ (.head _))))
  have g4' : lp < L' + 1 := Nat.lt_succ_of_lt (lL _ (.tail _ (.tail _ (.tail _ (.head _)))))
  have i1 := neN (Nat.ne_of_gt g1')
  have i2 := neN (Nat.ne_of_gt g2')
  have i3 := neN (Nat.ne_of_gt g3')
  have i4 := neN (Nat.ne_of_gt g4')
  have hpl : pv.length = PN.length := hpv.length
  walk_at "bf tocomp"
  rename Fr _ _ _ _ => Fa
  rename News _ _ _ _ => Na
  rename_i h2 oC2 dC2
  have key : ∀ (z : Nat) u, oC2.data = .cell (some (.int ((z : Int) - 97) u)) → z = 97 + i → oC2.data = .cell (some (.int (i : Int) u)) := fun z u e hz => by
    rw [e, hz, show ((97 + i : Nat) : Int) - 97 = (i : Int) by omega]
  obtain ⟨u9, dC3⟩ : ∃ u9, oC2.data = .cell (some (.int (i : Int) u9)) := ⟨_, key _ _ dC2 (by with_unfolding_all rfl)⟩
  clear dC2 key
  have hps : 0 < pv.toArray.size := by rw [List.size_toArray, hpl]; exact List.length_pos_iff.mpr hne
  walk_at "bf comp"
  walk_at "bf src"
  rename IsRange _ _ _ _ _ _ _ _ => IR
  rename Fr _ _ _ _ => F6
  rename News _ _ _ _ => N6
  refine LCg.CompSrc.range rfl F6 N6 IR (small_one (by omega) (by omega) (by omega) (by omega)) (rangeSize_nat _ _) (by rw [PySem.sizeLine_eq]; omega) ?_
  intro g'
  refine kcf_range (fun k => PN.getD ((10 + 8 * (i : Int) + k).fmod (pv.toArray.size : Nat)).toNat 0 + k * (i : Int)) ?celt ?cfin
  case celt =>
    intro k tkk I oI C oC D m₂ ys h5 tk5 E' hlo hhi hC hx F7 N7 off ne _
    have F7n := N7
    clear F6 N6
    (try simp only [LCg.Off3, and_true] at off)
    walk_at "bf stl"
    rename (Int.toNat _) = _ => hr2
    rename _ < pv.toArray.size => hr1
    have hrl : pv.toArray.size = PN.length := by rw [List.size_toArray, hpl]
    refine item_ints (News.isList F7n (by k_mem)) hpv (by omega) (by omega) (by omega) ?_
    intro t9
    walk_at "bf steps"
    exact kcf_el (by rw [hr2]; rfl) rfl rfl
  case cfin =>
    unfold KPfDone
    intro ys hys
    clear F6 N6
    walk_at "bf steps"
    rename Fr _ _ _ _ => F3
    rename News _ _ _ _ => N3
    rename (_ ∧ _ ∧ _ ∧ _ ∧ _) => o3
    have hD := N3 _ (.head _)
    have nD := new_of hg2 N3 (.head _) (fun z => by
      simp only [List.map_cons, List.map_nil, List.mem_cons, List.not_mem_nil, or_false] at z
      rcases z with z | z | z | z
      · exact o3.2.1 z.symm
      · exact o3.2.2.1 z.symm
      · exact o3.2.2.2.1 z.symm
      · exact o3.2.2.2.2 z.symm)
    refine ret _ _ _ (mod_of [] hg2 F3 N3 Al (fun p hp _ => .tail _ (.tail _ hp))) nD ⟨ys, ys.length, ⟨hD.1, g_new O.stays nD⟩, ?_⟩
    have e0 : ((d : Int) - 0).toNat = d := by omega
    rw [e0] at hys
    refine Eq.mp (congrArg (IntsAre ys) ?_) hys
    unfold spreadOf rangeKs
    rw [List.map_map]
    refine List.map_congr_left fun k _ => ?_
    show PN.getD ((10 + 8 * (i : Int) + (0 + (k : Int))).fmod (pv.toArray.size : Nat)).toNat 0 + (0 + (k : Int)) * (i : Int) = _
    have e1 : (10 + 8 * (i : Int) + (0 + (k : Int))) = ((10 + 8 * i + k : Nat) : Int) := by omega
    rw [e1, List.size_toArray, hpl, Int.fmod_eq_emod_of_nonneg _ (by omega), Int.zero_add]
    rfl
end
section
theorem rebase2 {g h : Heap} {L : Addr} {m : Str → Option Value} {cells fix : List (Addr × Obj)} (F : Fr g L h m) (N : News g L h (cells ++ fix)) :
    ∃ own, News g L h (cells ++ (fix ++ own)) ∧ OwnOff own ((cells ++ fix).map (·.1)) ∧ (∀ h' m', Fr g L h' m' → News g L h' (fix ++ own) → Mod (L :: cells.map (·.1)) h h') ∧
      ∀ a, g.get? a = none → a ∉ L :: (cells ++ fix).map (·.1) → (∀ p ∈ own, p.1 ≠ a) → h.get? a = none := by
  obtain ⟨own, a, b, c, d⟩ := rebase F N
  refine ⟨own, fun p hp => a p (by simpa [List.append_assoc] using hp), b, fun h' m' F' N' x o hx e => ?_, d⟩
  have N1 : News g L h' own := fun p hp => N' p (List.mem_append_right _ hp)
  by_cases q : x ∈ fix.map (·.1)
  · obtain ⟨p, hp, rfl⟩ := List.mem_map.mp q
    have h1 := (N p (List.mem_append_right _ hp)).1
    rw [e] at h1; cases h1
    exact (N' p (List.mem_append_left _ hp)).1
  · refine c h' m' F' N1 x o (fun z => ?_) e
    rcases List.mem_cons.mp z with rfl | z
    · exact hx (.head _)
    · rw [List.map_append] at z
      rcases List.mem_append.mp z with z | z
      · exact hx (.tail _ z)
      · exact q z
theorem off1_mem {D : Addr} : ∀ {l : List (Addr × Obj)}, LCg.Off1 D l → ∀ p ∈ l, p.1 ≠ D
  | [], _, _, h => nomatch h
  | _ :: _, x, p, h => by
    rcases List.mem_cons.mp h with rfl | h
    · exact x.1
    · exact off1_mem x.2 p h
structure Kept (s0 s : Shared) : Prop where
  drawn : s.drawn = s0.drawn
  os : s.os = s0.os
  gens : AllBare s0.gens → AllBare s.gens
theorem Kept.aft {s0 s s' : Shared} {W : List Addr} (k : Kept s0 s) (a : Aft W s s') : Kept s0 s' := ⟨a.drawn.trans k.drawn, a.os.trans k.os, fun z => a.gens (k.gens z)⟩
abbrev ftOf (e de Lq : Addr) (bs : List BH) : List Addr := e :: de :: Lq :: feet bs
structure Cst where
  w : World
  g : Heap
  c : Heap
  L : Addr
  D : BD
  q : Int
  e1 : Addr
  de1 : Addr
  L1 : Addr
  e2 : Addr
  de2 : Addr
  L2 : Addr
def foot (K : Cst) (b1 b2 : List BH) : List Addr := 418 :: (ftOf K.e1 K.de1 K.L1 b1 ++ ftOf K.e2 K.de2 K.L2 b2)
structure GS (s0 : Shared) (K : Cst) (X : List Addr) (stb : List (Addr × Obj)) (t1 t2 : Int) (b1 b2 : List BH) (m : Str → Option Value) (cells : List (Addr × Obj)) (s : Shared) : Prop where
  on : On K.w K.c s.heap
  gc : ∀ b o, K.g.get? b = some o → K.c.get? b = some o
  x0 : ∀ a ∈ X, K.c.get? a = none ∧ ∃ o, s.heap.get? a = some o
  f1 : Fil none K.D K.c s.heap K.e1 K.de1 K.L1 t1 b1
  f2 : Fil (some K.q) K.D K.c s.heap K.e2 K.de2 K.L2 t2 b2
  tab : Tab K.c s.heap
  ap : ∀ a ∈ foot K b1 b2, a ∉ X
  dis : ∀ a ∈ ftOf K.e1 K.de1 K.L1 b1, a ∉ ftOf K.e2 K.de2 K.L2 b2
  sb : ∀ p ∈ stb, s.heap.get? p.1 = some p.2 ∧ K.g.get? p.1 = none ∧ p.1 ∉ X ∧ p.1 ∉ foot K b1 b2
  fr : Fr K.g K.L s.heap m
  nw : News K.g K.L s.heap cells
  hL : K.L ∈ X
  hX : ∀ p ∈ cells, p.1 ∈ X
  kp : Kept s0 s
theorem Fil.tabOff {r : Option Int} {D : BD} {h₀ h : Heap} {e de Lq : Addr} {added : Int} {bs : List BH} (Z : Fil r D h₀ h e de Lq added bs) (T : Tab h₀ h) : 418 ∉ ftOf e de Lq bs := fun z => by
  obtain ⟨ps, hT, _⟩ := T
  obtain ⟨t1, t2, t3, t4, n, a1, a2, a3, a4, a5⟩ := id Z
  rcases List.mem_cons.mp z with z | z
  · rw [← z] at a1
    cases r <;> exact At.clash hT a1
  rcases List.mem_cons.mp z with z | z
  · rw [← z] at a2
    exact At.clash hT a2
  rcases List.mem_cons.mp z with z | z
  · rw [← z] at a3
    exact At.clash hT a3
  · exact not_feet a4 hT rfl rfl rfl z
theorem Fil.modF {r : Option Int} {D : BD} {h₀ h h' : Heap} {e de L : Addr} {added : Int} {bs : List BH} {W : List Addr} (Z : Fil r D h₀ h e de L added bs) (M : Mod W h h') (k : ∀ a ∈ ftOf e de L bs, a ∉ W) : Fil r D h₀ h' e de L added bs :=
  Z.modW M (k _ (.head _)) (k _ (.tail _ (.head _))) (k _ (.tail _ (.tail _ (.head _)))) (fun a ha => k a (.tail _ (.tail _ (.tail _ ha))))
section
variable {s0 : Shared} {K : Cst} {X : List Addr} {stb : List (Addr × Obj)} {t1 t2 : Int} {b1 b2 : List BH} {m : Str → Option Value} {cells : List (Addr × Obj)} {s : Shared}
theorem GS.there (Z : GS s0 K X stb t1 t2 b1 b2 m cells s) : ∀ a ∈ foot K b1 b2, ∃ o, At K.c s.heap a o := by
  intro a ha
  rcases List.mem_cons.mp ha with rfl | ha
  · obtain ⟨ps, q, _⟩ := Z.tab; exact ⟨_, q⟩
  rcases List.mem_append.mp ha with ha | ha
  · exact Z.f1.there a ha
  · exact Z.f2.there a ha
theorem GS.cg (Z : GS s0 K X stb t1 t2 b1 b2 m cells s) {a : Addr} (h : K.c.get? a = none) : K.g.get? a = none := g_new Z.gc h
theorem GS.live (Z : GS s0 K X stb t1 t2 b1 b2 m cells s) {a : Addr} (n : s.heap.get? a = none) : K.c.get? a = none ∧ a ∉ X ∧ a ∉ foot K b1 b2 := by
  refine ⟨g_new Z.on.stays n, fun z => ?_, fun z => ?_⟩
  · obtain ⟨o, q⟩ := (Z.x0 a z).2
    rw [n] at q; cases q
  · obtain ⟨o, q⟩ := Z.there a z
    have := q.1
    rw [n] at this; cases this
theorem GS.stab (Z : GS s0 K X stb t1 t2 b1 b2 m cells s) {a : Addr} {o : Obj} (h : (a, o) ∈ stb) : s.heap.get? a = some o := (Z.sb _ h).1
theorem GS.news (Z : GS s0 K X stb t1 t2 b1 b2 m cells s) (fix : List (Addr × Obj)) (h : ∀ p ∈ fix, p ∈ stb) : News K.g K.L s.heap (cells ++ fix) := fun p hp => by
  rcases List.mem_append.mp hp with hp | hp
  · exact Z.nw p hp
  · obtain ⟨q1, q2, q3, _⟩ := Z.sb p (h p hp)
    exact ⟨q1, fun z => q3 (z ▸ Z.hL), q2⟩
theorem GS.XS (Z : GS s0 K X stb t1 t2 b1 b2 m cells s) : (hd1.heap_39 K.w.params).In s.heap := Z.on.wd.1.keeps Z.on.stays
theorem GS.walkN {m' : Str → Option Value} {cells' : List (Addr × Obj)} {h' : Heap} {tk' : Nat} {X' : List Addr} {stb' : List (Addr × Obj)} (Z : GS s0 K X stb t1 t2 b1 b2 m cells s) (M : Mod X s.heap h') (F : Fr K.g K.L h' m') (N : News K.g K.L h' cells')
    (k : ∀ a ∈ X', (a ∈ X ∨ s.heap.get? a = none) ∧ ∃ o, h'.get? a = some o) (kL : K.L ∈ X') (kc : ∀ p ∈ cells', p.1 ∈ X')
    (ks : ∀ p ∈ stb', h'.get? p.1 = some p.2 ∧ K.g.get? p.1 = none ∧ p.1 ∉ X' ∧ p.1 ∉ foot K b1 b2) : GS s0 K X' stb' t1 t2 b1 b2 m' cells' { s with heap := h', toks := tk' } where
  on := Z.on.mod M fun a ha => (Z.x0 a ha).1
  gc := Z.gc
  x0 := fun a ha => ⟨by
    rcases (k a ha).1 with z | z
    · exact (Z.x0 a z).1
    · exact (Z.live z).1, (k a ha).2⟩
  f1 := Z.f1.modF M fun a ha => Z.ap a (.tail _ (List.mem_append_left _ ha))
  f2 := Z.f2.modF M fun a ha => Z.ap a (.tail _ (List.mem_append_right _ ha))
  tab := Z.tab.mod M (Z.ap _ (.head _))
  ap := fun a ha z => by
    rcases (k a z).1 with y | y
    · exact Z.ap a ha y
    · exact (Z.live y).2.2 ha
  dis := Z.dis
  sb := ks
  fr := F
  nw := N
  hL := kL
  hX := kc
  kp := ⟨Z.kp.drawn, Z.kp.os, Z.kp.gens⟩
theorem GS.sbX (Z : GS s0 K X stb t1 t2 b1 b2 m cells s) {X' : List Addr} {h' : Heap} (M : Mod X s.heap h') (k : ∀ a ∈ X', a ∈ X ∨ s.heap.get? a = none) : ∀ p ∈ stb, h'.get? p.1 = some p.2 ∧ K.g.get? p.1 = none ∧ p.1 ∉ X' ∧ p.1 ∉ foot K b1 b2 := fun p hp => by
  obtain ⟨q1, q2, q3, q4⟩ := Z.sb p hp
  refine ⟨M _ _ q3 q1, q2, fun z => ?_, q4⟩
  rcases k _ z with y | y
  · exact q3 y
  · rw [y] at q1; cases q1
theorem GS.walk {m' : Str → Option Value} {cells' : List (Addr × Obj)} {h' : Heap} {tk' : Nat} (Z : GS s0 K X stb t1 t2 b1 b2 m cells s) (M : Mod (K.L :: cells.map (·.1)) s.heap h') (F : Fr K.g K.L h' m') (N : News K.g K.L h' cells') (hc : cells'.map (·.1) = cells.map (·.1)) :
    GS s0 K X stb t1 t2 b1 b2 m' cells' { s with heap := h', toks := tk' } := by
  have sub : ∀ a ∈ K.L :: cells.map (·.1), a ∈ X := fun a ha => by
    rcases List.mem_cons.mp ha with rfl | ha
    · exact Z.hL
    · obtain ⟨p, hp, rfl⟩ := List.mem_map.mp ha
      exact Z.hX p hp
  have M' := M.mono sub
  refine Z.walkN M' F N (fun a ha => ⟨.inl ha, ?_⟩) Z.hL (fun p hp => ?_) (Z.sbX M' fun a ha => .inl ha)
  · obtain ⟨o, ho⟩ := (Z.x0 a ha).2
    by_cases q : a ∈ K.L :: cells.map (·.1)
    · rcases List.mem_cons.mp q with rfl | q
      · obtain ⟨o, _, _, ho, _⟩ := F.ns; exact ⟨o, ho⟩
      · rw [← hc] at q
        obtain ⟨p, hp, rfl⟩ := List.mem_map.mp q
        exact ⟨_, (N p hp).1⟩
    · exact ⟨o, M _ _ q ho⟩
  · have : p.1 ∈ cells.map (·.1) := hc ▸ List.mem_map_of_mem hp
    obtain ⟨p', hp', e'⟩ := List.mem_map.mp this
    exact e' ▸ Z.hX p' hp'
theorem GS.call0 {h' : Heap} {tk' : Nat} (Z : GS s0 K X stb t1 t2 b1 b2 m cells s) (M : Mod [] s.heap h') : GS s0 K X stb t1 t2 b1 b2 m cells { s with heap := h', toks := tk' } :=
  Z.walk (M.mono fun _ z => nomatch z) (fr_mod0 Z.fr M) (news_mod0 Z.nw M) rfl
theorem GS.callX {t1' t2' : Int} {b1' b2' : List BH} {s' : Shared} {W : List Addr} (Z : GS s0 K X stb t1 t2 b1 b2 m cells s) (A : Aft W s s') (hW : ∀ a ∈ W, a ∈ foot K b1 b2) (T : Tab K.c s'.heap) (F1 : Fil none K.D K.c s'.heap K.e1 K.de1 K.L1 t1' b1') (F2 : Fil (some K.q) K.D K.c s'.heap K.e2 K.de2 K.L2 t2' b2')
    (o1 : Own s.heap b1 b1') (o2 : Own s.heap b2 b2') (hd : b1' = b1 ∨ b2' = b2) : GS s0 K X stb t1' t2' b1' b2' m cells s' := by
  have old1 : ∀ a ∈ ftOf K.e1 K.de1 K.L1 b1', a ∈ ftOf K.e1 K.de1 K.L1 b1 ∨ s.heap.get? a = none := fun a ha => by
    rcases List.mem_cons.mp ha with rfl | ha
    · exact .inl (.head _)
    rcases List.mem_cons.mp ha with rfl | ha
    · exact .inl (.tail _ (.head _))
    rcases List.mem_cons.mp ha with rfl | ha
    · exact .inl (.tail _ (.tail _ (.head _)))
    · exact (o1 a ha).imp (fun z => .tail _ (.tail _ (.tail _ z))) id
  have old2 : ∀ a ∈ ftOf K.e2 K.de2 K.L2 b2', a ∈ ftOf K.e2 K.de2 K.L2 b2 ∨ s.heap.get? a = none := fun a ha => by
    rcases List.mem_cons.mp ha with rfl | ha
    · exact .inl (.head _)
    rcases List.mem_cons.mp ha with rfl | ha
    · exact .inl (.tail _ (.head _))
    rcases List.mem_cons.mp ha with rfl | ha
    · exact .inl (.tail _ (.tail _ (.head _)))
    · exact (o2 a ha).imp (fun z => .tail _ (.tail _ (.tail _ z))) id
  have old : ∀ a ∈ foot K b1' b2', a ∈ foot K b1 b2 ∨ s.heap.get? a = none := fun a ha => by
    rcases List.mem_cons.mp ha with rfl | ha
    · exact .inl (.head _)
    rcases List.mem_append.mp ha with ha | ha
    · exact (old1 a ha).imp (fun z => .tail _ (List.mem_append_left _ z)) id
    · exact (old2 a ha).imp (fun z => .tail _ (List.mem_append_right _ z)) id
  have off : ∀ a ∈ X, a ∉ W := fun a ha z => Z.ap a (hW a z) ha
  refine ⟨Z.on.mod A.mod fun a ha => ?_, Z.gc, fun a ha => ⟨(Z.x0 a ha).1, ?_⟩, F1, F2, T, fun a ha z => ?_, fun a ha z => ?_, fun p hp => ?_, fr_mod Z.fr A.mod (off _ Z.hL) (fun a ha => let ⟨_, q⟩ := Z.there a (hW a ha); Z.cg q.2), news_mod Z.nw A.mod (fun p hp => off _ (Z.hX p hp)), Z.hL, Z.hX, Z.kp.aft A⟩
  · obtain ⟨o, q⟩ := Z.there a (hW a ha); exact q.2
  · obtain ⟨o, q⟩ := (Z.x0 a ha).2
    exact ⟨o, A.mod _ _ (off a ha) q⟩
  · rcases old a ha with q | q
    · exact Z.ap a q z
    · obtain ⟨o, q'⟩ := (Z.x0 a z).2
      rw [q] at q'; cases q'
  · rcases hd with rfl | rfl
    · rcases old2 a z with y | y
      · exact Z.dis a ha y
      · obtain ⟨o, q⟩ := Z.f1.there a ha
        rw [q.1] at y; cases y
    · rcases old1 a ha with y | y
      · exact Z.dis a y z
      · obtain ⟨o, q⟩ := Z.f2.there a z
        rw [q.1] at y; cases y
  · obtain ⟨q1, q2, q3, q4⟩ := Z.sb p hp
    refine ⟨A.mod _ _ (fun z => q4 (hW _ z)) q1, q2, q3, fun z => ?_⟩
    rcases old _ z with y | y
    · exact q4 y
    · rw [y] at q1; cases q1
theorem GS.call1 {t1' : Int} {b1' : List BH} {s' : Shared} {W : List Addr} (Z : GS s0 K X stb t1 t2 b1 b2 m cells s) (A : Aft W s s') (hW : ∀ a ∈ W, a ∈ 418 :: ftOf K.e1 K.de1 K.L1 b1) (T : Tab K.c s'.heap) (F1 : Fil none K.D K.c s'.heap K.e1 K.de1 K.L1 t1' b1') (o1 : Own s.heap b1 b1') : GS s0 K X stb t1' t2 b1' b2 m cells s' :=
  Z.callX A (fun a ha => by
    rcases List.mem_cons.mp (hW a ha) with rfl | z
    · exact .head _
    · exact .tail _ (List.mem_append_left _ z)) T F1 (Z.f2.modF A.mod fun a ha z => by
    rcases List.mem_cons.mp (hW a z) with rfl | y
    · exact Z.f2.tabOff Z.tab ha
    · exact Z.dis a y ha) o1 (fun _ z => .inl z) (.inr rfl)
theorem GS.call2 {t2' : Int} {b2' : List BH} {s' : Shared} {W : List Addr} (Z : GS s0 K X stb t1 t2 b1 b2 m cells s) (A : Aft W s s') (hW : ∀ a ∈ W, a ∈ 418 :: ftOf K.e2 K.de2 K.L2 b2) (T : Tab K.c s'.heap) (F2 : Fil (some K.q) K.D K.c s'.heap K.e2 K.de2 K.L2 t2' b2') (o2 : Own s.heap b2 b2') : GS s0 K X stb t1 t2' b1 b2' m cells s' :=
  Z.callX A (fun a ha => by
    rcases List.mem_cons.mp (hW a ha) with rfl | z
    · exact .head _
    · exact .tail _ (List.mem_append_right _ z)) T (Z.f1.modF A.mod fun a ha z => by
    rcases List.mem_cons.mp (hW a z) with rfl | y
    · exact Z.f1.tabOff Z.tab ha
    · exact Z.dis a ha y) F2 (fun _ z => .inl z) o2 (.inl rfl)
theorem GS.callT {s' : Shared} (Z : GS s0 K X stb t1 t2 b1 b2 m cells s) (A : Aft [418] s s') (T : Tab K.c s'.heap) : GS s0 K X stb t1 t2 b1 b2 m cells s' :=
  Z.call1 A (fun a ha => by rw [List.mem_singleton.mp ha]; exact .head _) T (Z.f1.modF A.mod fun a ha z => by rw [List.mem_singleton.mp z] at ha; exact Z.f1.tabOff Z.tab ha) (fun _ z => .inl z)
end
end
section
structure Vars where
  t : Option Value
  x : Option Value
  kind : Option Value
  key : Option Value
  row : Option Value
  forced : Option Value
  begun : Option Value
  popped : Option Value
  heaps : Option Value
  said : Option Value
def lawMap (base : Str → Option Value) (v : Vars) (al : Int) (ta : Tok) (pu : Int) (tp : Tok) : Str → Option Value := fun y =>
  if y = Str.ofString "alive" then some (.int al ta) else if y = Str.ofString "puts" then some (.int pu tp) else
  if y = Str.ofString "t" then v.t else if y = Str.ofString "x" then v.x else if y = Str.ofString "kind" then v.kind else if y = Str.ofString "key" then v.key else if y = Str.ofString "row" then v.row else
  if y = Str.ofString "forced" then v.forced else if y = Str.ofString "begun" then v.begun else if y = Str.ofString "popped" then v.popped else if y = Str.ofString "heaps" then v.heaps else if y = Str.ofString "said" then v.said else base y
def lawNames : List Str := [Str.ofString "alive", Str.ofString "puts", Str.ofString "t", Str.ofString "x", Str.ofString "kind", Str.ofString "key", Str.ofString "row", Str.ofString "forced", Str.ofString "begun", Str.ofString "popped", Str.ofString "heaps", Str.ofString "said"]
def varsOf (m : Str → Option Value) : Vars := ⟨m (Str.ofString "t"), m (Str.ofString "x"), m (Str.ofString "kind"), m (Str.ofString "key"), m (Str.ofString "row"), m (Str.ofString "forced"), m (Str.ofString "begun"), m (Str.ofString "popped"), m (Str.ofString "heaps"), m (Str.ofString "said")⟩
theorem lawMap_of {m base : Str → Option Value} {al pu : Int} {ta tp : Tok} (hA : m (Str.ofString "alive") = some (.int al ta)) (hP : m (Str.ofString "puts") = some (.int pu tp)) (h : ∀ y, y ∉ lawNames → m y = base y) : m = lawMap base (varsOf m) al ta pu tp := by
  funext y
  unfold lawMap varsOf
  by_cases h1 : y = Str.ofString "alive"
  · rw [if_pos h1, h1, hA]
  rw [if_neg h1]
  by_cases h2 : y = Str.ofString "puts"
  · rw [if_pos h2, h2, hP]
  rw [if_neg h2]
  by_cases h3 : y = Str.ofString "t"
  · rw [if_pos h3, h3]
  rw [if_neg h3]
  by_cases h4 : y = Str.ofString "x"
  · rw [if_pos h4, h4]
  rw [if_neg h4]
  by_cases h5 : y = Str.ofString "kind"
  · rw [if_pos h5, h5]
  rw [if_neg h5]
  by_cases h6 : y = Str.ofString "key"
  · rw [if_pos h6, h6]
  rw [if_neg h6]
  by_cases h7 : y = Str.ofString "row"
  · rw [if_pos h7, h7]
  rw [if_neg h7]
  by_cases h8 : y = Str.ofString "forced"
  · rw [if_pos h8, h8]
  rw [if_neg h8]
  by_cases h9 : y = Str.ofString "begun"
  · rw [if_pos h9, h9]
  rw [if_neg h9]
  by_cases h10 : y = Str.ofString "popped"
  · rw [if_pos h10, h10]
  rw [if_neg h10]
  by_cases h11 : y = Str.ofString "heaps"
  · rw [if_pos h11, h11]
  rw [if_neg h11]
  by_cases h12 : y = Str.ofString "said"
  · rw [if_pos h12, h12]
  rw [if_neg h12]
  refine h y fun z => ?_
  simp only [lawNames, List.mem_cons, List.not_mem_nil, or_false] at z
  rcases z with z | z | z | z | z | z | z | z | z | z | z | z
  · exact h1 z
  · exact h2 z
  · exact h3 z
  · exact h4 z
  · exact h5 z
  · exact h6 z
  · exact h7 z
  · exact h8 z
  · exact h9 z
  · exact h10 z
  · exact h11 z
  · exact h12 z
structure Fx where
  PN : List Int
  f : Addr
  sp : Addr
  tu : Addr
  tr : Addr
  cj : Addr
  cd : Addr
  cs : Addr
  lr : Addr
  l0 : Addr
  od : Obj
  os : Obj
  rts : List Value
  rk : Nat
  rows : List (List Int)
  tn : Tok
  tm : Tok
  te : Tok
  td : Tok
def Fx.base (x : Fx) (K : Cst) : Str → Option Value := fun y => List.lookup y [(Str.ofString "tried", Value.ref x.tr), (Str.ofString "turns", .ref x.tu), (Str.ofString "spans", .ref x.sp), (Str.ofString "rows", .ref x.lr), (Str.ofString "names", .str (Str.ofString "abcde") x.tn), (Str.ofString "ring", .ref K.e2), (Str.ofString "wide", .ref K.e1), (Str.ofString "most", .int K.q x.tm), (Str.ofString "est", .int (K.D.est : Nat) x.te), (Str.ofString "script", .ref x.l0)]
structure LawAt (K : Cst) (x : Fx) (A : Around) : Prop where
  hr : Room A 150
  frames : A.frames = some []
  XK : (hd1.heap_39 K.w.params).In K.g
  T : ∃ p loose mean mg mb, Top p loose mean mg mb K.g
  ok : K.D.Ok
  hf : K.D.hf = .ref x.f
  ff : FnAt x.f K.c
  HF : ∀ (i d : Nat) (tk : Tok), i < 5 → d < 1000 → HF K.w K.c x.f d (.str ⟨#[97 + i]⟩ tk) (spreadOf x.PN i d)
  small : K.D.nh < 900 ∧ K.D.bits < 1000 ∧ K.D.est < 1000
  q : 1 ≤ K.q ∧ K.q ≤ 4
  rows : x.rows = (List.range 5).map fun i => (spreadOf x.PN i K.D.nh).map fun y => y.fmod (K.D.bits : Int)
  od : x.od.data = .cell (some (.int (K.D.nh : Nat) x.td))
  os : x.os.data = .cell (some (.ref x.f))
  adr : x.cj = K.L + 1 + 1 + 1 + 1 ∧ x.cd = K.L + 1 + 1 + 1 ∧ x.cs = K.L + 1
def cells6 (x : Fx) (spl tul : Addr) (svs tvs lvs uvs trv : List Value) (k1 k2 k3 k4 k5 : Nat) (oj : Obj) : List (Addr × Obj) := [(x.sp, listO (svs ++ [.ref spl]) k1), (spl, listO lvs k2), (x.tu, listO (tvs ++ [.ref tul]) k3), (tul, listO uvs k4), (x.tr, listO trv k5), (x.cj, oj)]
def fix3 (x : Fx) : List (Addr × Obj) := [(x.cd, x.od), (x.cs, x.os), (x.lr, listO x.rts x.rk)]
structure StA (s0 : Shared) (K : Cst) (x : Fx) (X : List Addr) (stb : List (Addr × Obj)) (t1 t2 : Int) (b1 b2 : List BH) (v : Vars) (al : Int) (ta : Tok) (pu : Int) (tp : Tok) (spI : List (List Int)) (spL : List Int) (tuI : List (List Int)) (tuL tried : List Int) (xj : Option Value)
    (spl tul : Addr) (svs tvs lvs uvs trv : List Value) (k1 k2 k3 k4 k5 : Nat) (oj : Obj) (s : Shared) : Prop where
  gs : GS s0 K X stb t1 t2 b1 b2 (lawMap (x.base K) v al ta pu tp) (cells6 x spl tul svs tvs lvs uvs trv k1 k2 k3 k4 k5 oj) s
  nsp : Nest (fun a o => (a, o) ∈ stb) svs spI
  isp : IntsAre lvs spL
  ntu : Nest (fun a o => (a, o) ∈ stb) tvs tuI
  itu : IntsAre uvs tuL
  itr : IntsAre trv tried
  j : oj.data = .cell xj
  nd : [x.sp, spl, x.tu, tul, x.tr, x.cj].Nodup
  fix : ∀ p ∈ fix3 x, p ∈ stb
  nro : Nest (fun a o => (a, o) ∈ stb) x.rts x.rows
theorem nodup6 {a b c d e f : Addr} (h : [a, b, c, d, e, f].Nodup) : (@Ne Nat a b ∧ @Ne Nat a c ∧ @Ne Nat a d ∧ @Ne Nat a e ∧ @Ne Nat a f) ∧ (@Ne Nat b c ∧ @Ne Nat b d ∧ @Ne Nat b e ∧ @Ne Nat b f) ∧ (@Ne Nat c d ∧ @Ne Nat c e ∧ @Ne Nat c f) ∧ (@Ne Nat d e ∧ @Ne Nat d f) ∧ @Ne Nat e f := by
  simp only [List.nodup_cons, List.mem_cons, List.not_mem_nil, or_false, not_or, List.nodup_nil, and_true] at h
  obtain ⟨⟨a1, a2, a3, a4, a5⟩, ⟨b1, b2, b3, b4⟩, ⟨c1, c2, c3⟩, ⟨d1, d2⟩, e1, _⟩ := h
  exact ⟨⟨a1, a2, a3, a4, a5⟩, ⟨b1, b2, b3, b4⟩, ⟨c1, c2, c3⟩, ⟨d1, d2⟩, e1⟩
theorem letter5 {j : Nat} (h : j < 5) : Txt.item (Str.ofString "abcde") (j : Int) = ⟨#[97 + j]⟩ := by
  have : j = 0 ∨ j = 1 ∨ j = 2 ∨ j = 3 ∨ j = 4 := by omega
  rcases this with rfl | rfl | rfl | rfl | rfl <;> decide +kernel
theorem item_neg1 {prog : Program} {w : World} {A : Around} {E : Value → Shared → Prop} {s : Shared} {value slice : PySem.Expr} {l : Addr} {ts : List Value} {x : Value} {u : Tok} {Q : Value → Shared → Prop}
    (hl : s.heap.IsList l (ts ++ [x]).toArray) (hz : ts.length < 1000) (h : Q x s)
    (hs : subscripted slice false (.ref l) (.int (-1) u) = operate [.ref l, .int (-1) u] (getItem (.ref l) (.int (-1) u)) := by with_unfolding_all rfl) :
    wpAny (model prog w) A (subscriptTail value slice (.ref l) (.int (-1) u)) Q E s := by
  have hz2 : (ts ++ [x]).toArray.size = ts.length + 1 := by simp
  refine tail_any hl.typeIs slot_list_getitem.lookup (wpAny_getItem_list_neg hl (by decide) ?_ (by decide) ?_ h) hs
  · rw [hz2]; omega
  · rw [hz2]
    have : (-1 + ((ts.length + 1 : Nat) : Int)).toNat = ts.length := by omega
    rw [this]
    simp
theorem apart93 {s0 : Shared} {K : Cst} {x : Fx} {X : List Addr} {stb : List (Addr × Obj)} {t1 t2 : Int} {b1 b2 : List BH} {m : Str → Option Value} {s : Shared} {spl tul : Addr} {svs tvs lvs uvs trv : List Value} {k1 k2 k3 k4 k5 : Nat} {oj : Obj}
    (G : GS s0 K X stb t1 t2 b1 b2 m (cells6 x spl tul svs tvs lvs uvs trv k1 k2 k3 k4 k5 oj) s) (fx : ∀ p ∈ fix3 x, p ∈ stb) :
    (@Ne Nat x.sp x.cd ∧ @Ne Nat spl x.cd ∧ @Ne Nat x.tu x.cd ∧ @Ne Nat tul x.cd ∧ @Ne Nat x.tr x.cd) ∧ (@Ne Nat x.sp x.cs ∧ @Ne Nat spl x.cs ∧ @Ne Nat x.tu x.cs ∧ @Ne Nat tul x.cs ∧ @Ne Nat x.tr x.cs) ∧ (@Ne Nat x.sp x.lr ∧ @Ne Nat spl x.lr ∧ @Ne Nat x.tu x.lr ∧ @Ne Nat tul x.lr ∧ @Ne Nat x.tr x.lr ∧ @Ne Nat x.cj x.lr) := by
  have key : ∀ p ∈ fix3 x, ∀ q ∈ cells6 x spl tul svs tvs lvs uvs trv k1 k2 k3 k4 k5 oj, q.1 ≠ p.1 := fun p hp q hq z => (G.sb p (fx p hp)).2.2.1 (z ▸ G.hX q hq)
  have i1 := key _ (.head _)
  have i2 := key _ (.tail _ (.head _))
  have i3 := key _ (.tail _ (.tail _ (.head _)))
  refine ⟨⟨i1 _ (.head _), i1 _ (.tail _ (.head _)), i1 _ (.tail _ (.tail _ (.head _))), i1 _ (.tail _ (.tail _ (.tail _ (.head _)))), i1 _ (.tail _ (.tail _ (.tail _ (.tail _ (.head _)))))⟩, ⟨i2 _ (.head _), i2 _ (.tail _ (.head _)), i2 _ (.tail _ (.tail _ (.head _))), i2 _ (.tail _ (.tail _ (.tail _ (.head _)))), i2 _ (.tail _ (.tail _ (.tail _ (.tail _ (.head _)))))⟩,
    ⟨i3 _ (.head _), i3 _ (.tail _ (.head _)), i3 _ (.tail _ (.tail _ (.head _))), i3 _ (.tail _ (.tail _ (.tail _ (.head _)))), i3 _ (.tail _ (.tail _ (.tail _ (.tail _ (.head _))))), i3 _ (.tail _ (.tail _ (.tail _ (.tail _ (.tail _ (.head _))))))⟩⟩
theorem canonF {g h : Heap} {L : Addr} {m base : Str → Option Value} {al pu : Int} {ta tp : Tok} (F : Fr g L h m) (hA : m (Str.ofString "alive") = some (.int al ta)) (hP : m (Str.ofString "puts") = some (.int pu tp))
    (k : ∀ y, y ≠ Str.ofString "alive" → y ≠ Str.ofString "puts" → y ≠ Str.ofString "t" → y ≠ Str.ofString "x" → y ≠ Str.ofString "kind" → y ≠ Str.ofString "key" → y ≠ Str.ofString "row" → y ≠ Str.ofString "forced" → y ≠ Str.ofString "begun" → y ≠ Str.ofString "popped" → y ≠ Str.ofString "heaps" → y ≠ Str.ofString "said" → m y = base y) : Fr g L h (lawMap base (varsOf m) al ta pu tp) := by
  have e := lawMap_of hA hP (fun y hy => by
    simp only [lawNames, List.mem_cons, List.not_mem_nil, or_false, not_or] at hy
    obtain ⟨y1, y2, y3, y4, y5, y6, y7, y8, y9, y10, y11, y12⟩ := hy
    exact k y y1 y2 y3 y4 y5 y6 y7 y8 y9 y10 y11 y12)
  rw [← e]
  exact F
theorem news_sub {g h : Heap} {L : Addr} {l l' : List (Addr × Obj)} (N : News g L h l') (s : List.Sublist l l') : News g L h l := fun p hp => N p (s.subset hp)
theorem flat_len {α β : Type} {f : α → List β} {k : Nat} : ∀ (ls : List α), (∀ l ∈ ls, (f l).length ≤ k) → (ls.flatMap f).length ≤ ls.length * k
  | [], _ => by simp
  | l :: ls, h => by
    rw [List.flatMap_cons, List.length_append, List.length_cons, Nat.succ_mul]
    have := h l (.head _)
    have := flat_len ls fun l hl => h l (.tail _ hl)
    omega
theorem chunk_len {n : Nat} {l : List Int} {k : Nat} (h : l.length ≤ k) : (chunk n l).length ≤ k + 1 := by
  unfold chunk cntOf
  rw [List.length_map, List.length_range]
  have : (max l.length 1 - 1) / n ≤ max l.length 1 - 1 := Nat.div_le_self _ _
  omega
theorem heaps_len {n : Nat} {ls : List (List Int)} {a k : Nat} (h : ls.length ≤ a) (h2 : ∀ l ∈ ls, l.length ≤ k) : (heapsOf n ls).length ≤ a * (k + 1) :=
  Nat.le_trans (flat_len ls fun l hl => chunk_len (h2 l hl)) (Nat.mul_le_mul_right _ h)
theorem chunk_sub {n : Nat} {l c : List Int} (hc : c ∈ chunk n l) : ∀ j ∈ c, j ∈ l := by
  obtain ⟨i, _, rfl⟩ := List.mem_map.mp hc
  exact fun j hj => List.mem_of_mem_drop (List.mem_of_mem_take hj)
theorem heaps_sub {n : Nat} {ls : List (List Int)} {c : List Int} (hc : c ∈ heapsOf n ls) : ∃ l ∈ ls, ∀ j ∈ c, j ∈ l := by
  obtain ⟨l, hl, hc⟩ := List.mem_flatMap.mp hc
  exact ⟨l, hl, chunk_sub hc⟩
theorem Nest.append {K : Addr → Obj → Prop} {ts ts' : List Value} {ls ls' : List (List Int)} (x : Nest K ts ls) (y : Nest K ts' ls') : Nest K (ts ++ ts') (ls ++ ls') := by
  induction x with
  | nil => exact y
  | cons hr hv _ ih => exact .cons hr hv ih
def ifThen (b : List Stmt) (i : Nat) : List Stmt := match b[i]? with | some (.If _ s _ _) => s | _ => []
def ifElse (b : List Stmt) (i : Nat) : List Stmt := match b[i]? with | some (.If _ _ s _) => s | _ => []
structure Plain (x : Fx) (spI : List (List Int)) (spL : List Int) (tuI : List (List Int)) (tuL : List Int) : Prop where
  z1 : spI.length < 20
  z2 : ∀ l ∈ spI ++ [spL], l.length < 20 ∧ ∀ j ∈ l, 0 ≤ j ∧ j < 5
  z3 : tuI.length < 20
  z4 : ∀ l ∈ tuI ++ [tuL], l.length < 20 ∧ ∀ j ∈ l, 0 ≤ j ∧ j < 5
theorem pick_neg (vs : List Value) {al : Nat} (h : 1 ≤ al ∧ al ≤ vs.length) : (slicePick vs.toArray (some (-(al : Int))) none none).toList = vs.drop (vs.length - al) := by
  have e : sliceBounds (some (-(al : Int))) none none vs.toArray.size = (((vs.length - al : Nat) : Int), ((vs.toArray.size : Nat) : Int), 1) := by
    simp only [sliceBounds, Option.getD_none, show (1 : Int) > 0 by decide, if_true, List.size_toArray]
    rw [if_pos (show -(al : Int) < 0 by omega)]
    congr 1
    omega
  rw [kmk_pick_nat _ e]
  show ((vs.drop (vs.length - al)).take (vs.toArray.size - (vs.length - al))) = _
  rw [List.size_toArray, List.take_of_length_le (by rw [List.length_drop]; omega)]
theorem Nest.drop {K : Addr → Obj → Prop} : ∀ {ts : List Value} {ls : List (List Int)} (_ : Nest K ts ls) (n : Nat), Nest K (ts.drop n) (ls.drop n)
  | _, _, x, 0 => x
  | _, _, .nil, _ + 1 => .nil
  | _, _, .cons _ _ h, n + 1 => Nest.drop h n
theorem heaps_el {n : Nat} {ls : List (List Int)} {c : List Int} {k : Nat} (h2 : ∀ l ∈ ls, l.length < k) (hc : c ∈ heapsOf n ls) : c.length < k := by
  obtain ⟨l, hl, hc⟩ := List.mem_flatMap.mp hc
  obtain ⟨i, _, rfl⟩ := List.mem_map.mp hc
  have := h2 l hl
  rw [List.length_take, List.length_drop]
  omega
theorem heaps_few {n : Nat} {I : List (List Int)} {l : List Int} (z1 : I.length < 20) (z2 : ∀ c ∈ I ++ [l], c.length < 20) : (heapsOf n (I ++ [l])).length < 500 := by
  have := heaps_len (n := n) (ls := I ++ [l]) (a := 20) (k := 20) (by simp; omega) (fun c hc => Nat.le_of_lt (z2 c hc))
  omega
theorem heaps_in {n : Nat} {ls : List (List Int)} (z : ∀ l ∈ ls, ∀ j ∈ l, (0 : Int) ≤ j ∧ j < 5) : ∀ hp ∈ heapsOf n ls, ∀ j ∈ hp, (0 : Int) ≤ j ∧ j < 5 := fun hp hh j hj => by
  obtain ⟨l, hl, hs⟩ := heaps_sub hh
  exact z l hl j (hs j hj)
theorem rows_len {PN : List Int} {nh bits : Nat} (h : nh < 900) : ∀ l ∈ ((List.range 5).map fun i => (spreadOf PN i nh).map fun y => y.fmod (bits : Int)), l.length < 1000 := fun l hl => by
  obtain ⟨i, _, rfl⟩ := List.mem_map.mp hl
  simp [spreadOf]
  omega
theorem row_len {PN : List Int} {nh bits j : Nat} (h : nh < 900) : (((List.range 5).map fun i => (spreadOf PN i nh).map fun y => y.fmod (bits : Int)).getD j []).length < 1000 := by
  rw [List.getD_eq_getElem?_getD]
  cases q : ((List.range 5).map fun i => (spreadOf PN i nh).map fun y => y.fmod (bits : Int))[j]? with
  | none => simp
  | some l => exact rows_len h l (List.mem_of_getElem? q)
theorem slice_neg {prog : Program} {w : World} {A : Around} {E : Value → Shared → Prop} {s : Shared} {h : Heap} {value slice : PySem.Expr} {l : Addr} {ts : List Value} {cap an : Nat} {tt : Tok} {Q : Value → Shared → Prop}
    (e0 : s.heap = h.push { cls := .type "slice", data := .fields #[.int (-(an : Int)) tt, .none, .none] }) (hl : h.get? l = some (listO ts cap)) (h1 : 1 ≤ an ∧ an ≤ ts.length) (hz : ts.length < 1000)
    (k : ∀ D h', Mod [] h h' → h.get? D = none → h'.get? D = some (listO (ts.drop (ts.length - an)) 0) → Q (.ref D) { s with heap := h' })
    (hs : subscripted slice false (.ref l) (.ref h.objs.size) = operate [.ref h.objs.size, .ref l] (getItem (.ref l) (.ref h.objs.size)) := by with_unfolding_all rfl) :
    wpAny (model prog w) A (subscriptTail value slice (.ref l) (.ref h.objs.size)) Q E s := by
  obtain ⟨h0, a, b, c, d⟩ := s
  dsimp only at e0
  subst e0
  have hl' : h.IsList l ts.toArray := ⟨_, hl, rfl, cap, rfl⟩
  refine tail_any (Heap.IsList.typeIs (s := ⟨h.push { cls := .type "slice", data := .fields #[.int (-(an : Int)) tt, .none, .none] }, a, b, c, d⟩) (hl'.push _)) slot_list_getitem.lookup (wpAny_getItem_list_slice (hl'.push _) (Heap.IsSliceOf.new ..) (by kmk_part) (by kmk_part) .none (by simp) ?_ (by rw [sizeLine_eq, List.size_toArray]; omega)) hs
  rw [Heap.size_push]
  refine k _ _ (fun b o _ e => Heap.get?_push_of_some _ (Heap.get?_push_of_some _ e)) (fresh_above _ 1) ?_
  have z := fun (A B : Obj) (q : B.isFreed = false) => Heap.get?_push_size (h.push A) (o := B) q
  have z1 := fun A => z A ({ cls := .type "list", data := .seq (slicePick ts.toArray (some (-(an : Int))) none none) }) rfl
  simp only [Heap.size_push] at z1
  rw [z1]
  have e := pick_neg ts h1
  rw [← e]
end
section
def stepH (n : Nat) (H : List (List Int)) (j : Int) : List (List Int) := if n ≤ (H.getLastD []).length then H ++ [[j]] else H.dropLast ++ [H.getLastD [] ++ [j]]
theorem chunk_ne (n : Nat) (l : List Int) : chunk n l ≠ [] := by
  unfold chunk cntOf
  simp
theorem heaps_app (n : Nat) (I J : List (List Int)) : heapsOf n (I ++ J) = heapsOf n I ++ heapsOf n J := List.flatMap_append
theorem heaps_one (n : Nat) (l : List Int) : heapsOf n [l] = chunk n l := by simp [heapsOf]
theorem getLastD_app {α : Type} (a : α) (I J : List α) (h : J ≠ []) : (I ++ J).getLastD a = J.getLastD a := by
  rw [List.getLastD_eq_getLast?, List.getLastD_eq_getLast?, List.getLast?_append]
  cases q : J.getLast? with
  | none => exact absurd (List.getLast?_eq_none_iff.mp q) h
  | some x => rfl
theorem stepH_app {n : Nat} {I J : List (List Int)} {j : Int} (h : J ≠ []) : stepH n (I ++ J) j = I ++ stepH n J j := by
  unfold stepH
  rw [getLastD_app _ _ _ h]
  by_cases c : n ≤ (J.getLastD []).length
  · rw [if_pos c, if_pos c, List.append_assoc]
  · rw [if_neg c, if_neg c, List.dropLast_append_of_ne_nil h, List.append_assoc]
theorem range_succ_map {α : Type} (f : Nat → α) (k : Nat) : (List.range (k + 1)).map f = (List.range k).map f ++ [f k] := by
  rw [List.range_succ, List.map_append]; rfl
theorem chunk_put {n : Nat} (hn : 1 ≤ n) (l : List Int) (j : Int) : chunk n (l ++ [j]) = stepH n (chunk n l) j := by
  have key : ∀ k, k * n ≤ l.length → (k = 0 ∨ k * n < l.length) → l.length ≤ (k + 1) * n → chunk n (l ++ [j]) = stepH n (chunk n l) j := by
    intro k h1 h3 h2
    have hc : cntOf n l.length = k + 1 := by
      unfold cntOf
      congr 1
      refine Nat.div_eq_of_lt_le ?_ ?_
      · rcases h3 with h3 | h3
        · subst h3; simp
        · omega
      · have : 1 ≤ (k + 1) * n := Nat.le_trans hn (Nat.le_mul_of_pos_left _ (by omega))
        omega
    have ec : chunk n l = (List.range k).map (fun i => (l.drop (i * n)).take n) ++ [l.drop (k * n)] := by
      unfold chunk
      rw [hc, range_succ_map]
      congr 2
      rw [List.take_of_length_le]
      rw [List.length_drop]
      rw [Nat.succ_mul] at h2
      omega
    have same : ∀ i, i < k → ((l ++ [j]).drop (i * n)).take n = (l.drop (i * n)).take n := fun i hi => by
      have : (i + 1) * n ≤ k * n := Nat.mul_le_mul_right _ hi
      rw [Nat.succ_mul] at this
      rw [List.drop_append_of_le_length (by omega), List.take_append_of_le_length (by rw [List.length_drop]; omega)]
    have sm : (List.range k).map (fun i => ((l ++ [j]).drop (i * n)).take n) = (List.range k).map (fun i => (l.drop (i * n)).take n) := List.map_congr_left fun i hi => same i (List.mem_range.mp hi)
    have lastd : (chunk n l).getLastD [] = l.drop (k * n) := by rw [ec, getLastD_app _ _ _ (by simp)]; rfl
    unfold stepH
    rw [lastd, List.length_drop]
    rw [Nat.succ_mul] at h2
    by_cases c : n ≤ l.length - k * n
    · rw [if_pos c]
      have hc2 : cntOf n (l ++ [j]).length = k + 2 := by
        unfold cntOf
        rw [List.length_append, List.length_singleton]
        show (max (l.length + 1) 1 - 1) / n + 1 = (k + 1) + 1
        congr 1
        refine Nat.div_eq_of_lt_le ?_ ?_
        · rw [Nat.succ_mul]; omega
        · rw [Nat.succ_mul, Nat.succ_mul]; omega
      unfold chunk at ec ⊢
      rw [hc2, range_succ_map, range_succ_map, sm, ec, List.append_assoc, List.append_assoc]
      congr 1
      have e1 : l.length = (k + 1) * n := by rw [Nat.succ_mul]; omega
      have e2 : (l ++ [j]).drop ((k + 1) * n) = [j] := by rw [← e1]; simp
      have e3 : ((l ++ [j]).drop (k * n)).take n = l.drop (k * n) := by
        rw [List.drop_append_of_le_length h1, List.take_append_of_le_length (by rw [List.length_drop]; omega), List.take_of_length_le (by rw [List.length_drop]; omega)]
      rw [e2, e3, List.take_of_length_le (by simpa using hn)]
    · rw [if_neg c]
      have hc2 : cntOf n (l ++ [j]).length = k + 1 := by
        unfold cntOf
        rw [List.length_append, List.length_singleton]
        congr 1
        refine Nat.div_eq_of_lt_le ?_ ?_
        · omega
        · rw [Nat.succ_mul]; omega
      rw [ec, List.dropLast_concat]
      unfold chunk
      rw [hc2, range_succ_map, sm]
      congr 2
      rw [List.drop_append_of_le_length h1, List.take_of_length_le (by simp; omega)]
  have hk : (max l.length 1 - 1) / n * n ≤ max l.length 1 - 1 := Nat.div_mul_le_self _ _
  have hk2 : max l.length 1 - 1 < ((max l.length 1 - 1) / n + 1) * n := by
    have := Nat.lt_mul_div_succ (max l.length 1 - 1) (show 0 < n from hn)
    rwa [Nat.mul_comm] at this
  by_cases z : l.length = 0
  · refine key 0 (by simp) (.inl rfl) (by rw [z]; simp)
  · refine key ((max l.length 1 - 1) / n) (by omega) (.inr (by omega)) (by omega)
theorem heaps_put {n : Nat} (hn : 1 ≤ n) (I : List (List Int)) (l : List Int) (j : Int) : heapsOf n (I ++ [l ++ [j]]) = stepH n (heapsOf n (I ++ [l])) j := by
  rw [heaps_app, heaps_app, heaps_one, heaps_one, chunk_put hn, stepH_app (chunk_ne n l)]
theorem heaps_push {n : Nat} (I : List (List Int)) : heapsOf n (I ++ [[]]) = heapsOf n I ++ [[]] := by
  rw [heaps_app, heaps_one]
  congr 1
  unfold chunk cntOf
  simp
theorem heaps_ne {n : Nat} {I : List (List Int)} {l : List Int} : heapsOf n (I ++ [l]) ≠ [] := by
  rw [heaps_app, heaps_one]
  simp [chunk_ne]
theorem chunk_le {n : Nat} {l c : List Int} (h : c ∈ chunk n l) : c.length ≤ n := by
  obtain ⟨i, _, rfl⟩ := List.mem_map.mp h
  rw [List.length_take]; omega
theorem heaps_le {n : Nat} {I : List (List Int)} {c : List Int} (h : c ∈ heapsOf n I) : c.length ≤ n := by
  obtain ⟨l, _, h⟩ := List.mem_flatMap.mp h
  exact chunk_le h
theorem getLastD_mem {α : Type} {a : α} {l : List α} (h : l ≠ []) : l.getLastD a ∈ l := by
  rw [List.getLastD_eq_getLast?, List.getLast?_eq_some_getLast h]
  exact List.getLast_mem h
end
section
def BitsOf (rows : List (List Int)) (hp : List Int) : Nat → Bool := fun q => hp.any fun j => (rows.getD j.toNat []).any fun c => decide (c.toNat = q)
def rowH (rows : List (List Int)) (hp : List Int) : Nat × (Nat → Bool) := (hp.length, BitsOf rows hp)
def rowsOf (bs : List BH) : List (Nat × (Nat → Bool)) := bs.map fun b => (b.cnt, b.p)
def win (H : List (List Int)) (an : Nat) : List (List Int) := H.drop (H.length - an)
def rowsAt (PN : List Int) (nh bits : Nat) : List (List Int) := (List.range 5).map fun i => (spreadOf PN i nh).map fun y => y.fmod (bits : Int)
theorem rowsAt_get {PN : List Int} {nh bits j : Nat} (h : j < 5) : (rowsAt PN nh bits).getD j [] = (spreadOf PN j nh).map fun y => y.fmod (bits : Int) := by
  unfold rowsAt
  rw [List.getD_eq_getElem?_getD, List.getElem?_map, List.getElem?_range h]
  rfl
theorem rowsAt_pos {PN : List Int} {nh bits : Nat} (hb : 0 < bits) (j : Nat) : ∀ c ∈ (rowsAt PN nh bits).getD j [], 0 ≤ c := by
  intro c hc
  rw [List.getD_eq_getElem?_getD] at hc
  cases q : (rowsAt PN nh bits)[j]? with
  | none => rw [q] at hc; cases hc
  | some l =>
    rw [q] at hc
    obtain ⟨i, _, rfl⟩ := List.mem_map.mp (List.mem_of_getElem? q)
    obtain ⟨y, _, rfl⟩ := List.mem_map.mp hc
    exact Int.fmod_nonneg_of_pos _ (by omega)
theorem bits_eq {rows : List (List Int)} (hr : ∀ j, ∀ c ∈ rows.getD j [], (0 : Int) ≤ c) (hp : List Int) {c : Int} (hc : 0 ≤ c) : (hp.flatMap fun j => rows.getD j.toNat []).any (· == c) = BitsOf rows hp c.toNat := by
  unfold BitsOf
  rw [List.any_flatMap]
  congr 1
  funext j
  rw [Bool.eq_iff_iff, List.any_eq_true, List.any_eq_true]
  constructor
  · rintro ⟨a, ha, e⟩
    exact ⟨a, ha, by rw [beq_iff_eq.mp e]; simp⟩
  · rintro ⟨a, ha, e⟩
    have := hr _ a ha
    have e' : a.toNat = c.toNat := by simpa using e
    exact ⟨a, ha, by rw [beq_iff_eq]; omega⟩
theorem told_eq {D : BD} {PN : List Int} {bs : List BH} {H : List (List Int)} {hs : List Int} {j : Nat} (ok : 0 < D.bits) (r : rowsOf bs = H.map (rowH (rowsAt PN D.nh D.bits))) (ht : hs.take D.nh = spreadOf PN j D.nh) (hj : j < 5) :
    bs.any (BH.has D hs) = toldP H (rowsAt PN D.nh D.bits) ((rowsAt PN D.nh D.bits).getD j []) := by
  have e1 : bs.any (BH.has D hs) = (rowsOf bs).any fun r => (spreadOf PN j D.nh).all fun y => r.2 (y.fmod D.bits).toNat := by
    unfold rowsOf BH.has
    rw [List.any_map, ht]
    rfl
  rw [e1, r, List.any_map]
  unfold toldP
  congr 1
  funext hp
  rw [rowsAt_get hj, List.all_map]
  show ((spreadOf PN j D.nh).all fun y => BitsOf _ hp (y.fmod D.bits).toNat) = _
  congr 1
  funext y
  exact (bits_eq (rowsAt_pos ok) hp (Int.fmod_nonneg_of_pos _ (by omega))).symm
theorem rowH_put {D : BD} {PN : List Int} {hs : List Int} {j : Nat} (ht : hs.take D.nh = spreadOf PN j D.nh) (hj : j < 5) {b : BH} {c : List Int} (h : (b.cnt, b.p) = rowH (rowsAt PN D.nh D.bits) c) : ((b.put D hs).cnt, (b.put D hs).p) = rowH (rowsAt PN D.nh D.bits) (c ++ [(j : Int)]) := by
  unfold rowH at h ⊢
  obtain ⟨e1, e2⟩ := Prod.mk.inj h
  unfold BH.put
  dsimp only
  rw [e1, e2, ht]
  congr 1
  · rw [List.length_append]; rfl
  · funext q
    unfold BitsOf
    rw [List.any_append]
    congr 1
    simp only [List.any_cons, List.any_nil, Bool.or_false, Int.toNat_natCast]
    rw [rowsAt_get hj, List.any_map]
    rfl
theorem rowsOf_app (a b : List BH) : rowsOf (a ++ b) = rowsOf a ++ rowsOf b := List.map_append
theorem rows_last {bs : List BH} {G : List (List Int)} {rows : List (List Int)} (r : rowsOf bs = G.map (rowH rows)) (hne : bs ≠ []) : ((bs.getLast hne).cnt, (bs.getLast hne).p) = rowH rows (G.getLastD []) ∧ rowsOf bs.dropLast = G.dropLast.map (rowH rows) ∧ G ≠ [] := by
  have e := List.dropLast_concat_getLast hne
  have hG : G ≠ [] := fun z => by
    rw [z] at r
    exact hne (List.map_eq_nil_iff.mp r)
  have eG : G.dropLast ++ [G.getLastD []] = G := by
    rw [List.getLastD_eq_getLast?, List.getLast?_eq_some_getLast hG]
    exact List.dropLast_concat_getLast hG
  rw [← e, rowsOf_app, ← eG, List.map_append] at r
  have := List.append_inj' r rfl
  refine ⟨?_, ?_, hG⟩
  · have z := this.2
    simp only [rowsOf, List.map_cons, List.map_nil, List.cons.injEq, and_true] at z
    rw [List.dropLast_concat_getLast hne] at e
    exact z
  · exact this.1
theorem put_old {D : BD} {PN : List Int} {hs : List Int} {j : Nat} (ht : hs.take D.nh = spreadOf PN j D.nh) (hj : j < 5) {bs : List BH} {G : List (List Int)} (r : rowsOf bs = G.map (rowH (rowsAt PN D.nh D.bits))) (hne : bs ≠ []) : rowsOf (putLast D hs bs hne) = (G.dropLast ++ [G.getLastD [] ++ [(j : Int)]]).map (rowH (rowsAt PN D.nh D.bits)) := by
  obtain ⟨e1, e2, _⟩ := rows_last r hne
  unfold putLast
  rw [rowsOf_app, e2, List.map_append]
  congr 1
  show [(_, _)] = [_]
  congr 1
  exact rowH_put ht hj e1
theorem put_new {D : BD} {PN : List Int} {hs : List Int} {j : Nat} (ht : hs.take D.nh = spreadOf PN j D.nh) (hj : j < 5) {bs : List BH} {G : List (List Int)} {b : BH} {h : Heap} (fb : FreshB h b) (r : rowsOf bs = G.map (rowH (rowsAt PN D.nh D.bits))) (hne : bs ++ [b] ≠ []) : rowsOf (putLast D hs (bs ++ [b]) hne) = (G ++ [[(j : Int)]]).map (rowH (rowsAt PN D.nh D.bits)) := by
  have r2 : rowsOf (bs ++ [b]) = (G ++ [[]]).map (rowH (rowsAt PN D.nh D.bits)) := by
    obtain ⟨_, _, _, e1, e2⟩ := fb
    rw [rowsOf_app, r, List.map_append]
    congr 1
    show [(b.cnt, b.p)] = _
    rw [e1, e2]
    rfl
  rw [put_old ht hj r2 hne]
  simp
theorem rows_push {bs : List BH} {G rows : List (List Int)} {b : BH} {h : Heap} (fb : FreshB h b) (r : rowsOf bs = G.map (rowH rows)) : rowsOf (bs ++ [b]) = (G ++ [[]]).map (rowH rows) := by
  obtain ⟨_, _, _, e1, e2⟩ := fb
  rw [rowsOf_app, r, List.map_append]
  congr 1
  show [(b.cnt, b.p)] = _
  rw [e1, e2]
  rfl
theorem win_len {H : List (List Int)} {an : Nat} (h : an ≤ H.length) : (win H an).length = an := by
  unfold win; rw [List.length_drop]; omega
theorem win_last {H : List (List Int)} {an : Nat} (h : 1 ≤ an ∧ an ≤ H.length) : (win H an).getLastD [] = H.getLastD [] := by
  have e := getLastD_app ([] : List Int) (H.take (H.length - an)) (win H an) (fun z => by have := win_len h.2; rw [z] at this; simp at this; omega)
  unfold win at e ⊢
  rw [List.take_append_drop] at e
  exact e.symm
theorem win_snoc {H : List (List Int)} {c : List Int} {an : Nat} (h : an ≤ H.length) : win (H ++ [c]) (an + 1) = win H an ++ [c] := by
  unfold win
  rw [List.length_append, List.length_singleton, show H.length + 1 - (an + 1) = H.length - an by omega, List.drop_append_of_le_length (by omega)]
theorem win_tail {H : List (List Int)} {c : List Int} {an : Nat} (h : 1 ≤ an ∧ an ≤ H.length) : win (H ++ [c]) an = (win H an).tail ++ [c] := by
  unfold win
  rw [List.length_append, List.length_singleton, List.drop_append_of_le_length (by omega), List.tail_drop]
  congr 2
  omega
theorem win_set {H : List (List Int)} {c : List Int} {an : Nat} (h : 1 ≤ an ∧ an ≤ H.length) : win (H.dropLast ++ [c]) an = (win H an).dropLast ++ [c] := by
  unfold win
  rw [List.length_append, List.length_singleton, List.length_dropLast, show H.length - 1 + 1 - an = H.length - an by omega, List.drop_append_of_le_length (by rw [List.length_dropLast]; omega), List.dropLast_eq_take, List.dropLast_eq_take, List.drop_take, List.length_drop]
  congr 2
  omega
theorem rel_put1 {D : BD} {PN : List Int} {hs : List Int} {j : Nat} {h : Heap} {bs bs1 bs' : List BH} {H : List (List Int)} (ht : hs.take D.nh = spreadOf PN j D.nh) (hj : j < 5) (gr : Grow none D false h bs bs1) (pl : ∃ hne, bs' = putLast D hs bs1 hne) (r : rowsOf bs = H.map (rowH (rowsAt PN D.nh D.bits))) :
    rowsOf bs' = (stepH D.est H (j : Int)).map (rowH (rowsAt PN D.nh D.bits)) := by
  obtain ⟨hne, gr⟩ := gr
  obtain ⟨hne1, rfl⟩ := pl
  obtain ⟨e1, _, _⟩ := rows_last r hne
  have ec : (bs.getLast hne).cnt = (H.getLastD []).length := (Prod.mk.inj e1).1
  unfold stepH
  dsimp only at gr
  rw [ec] at gr
  by_cases c : D.est ≤ (H.getLastD []).length
  · rw [if_pos (.inr c)] at gr
    obtain ⟨b, fb, rfl⟩ := gr
    rw [if_pos c]
    exact put_new ht hj fb r hne1
  · rw [if_neg (by simpa using c)] at gr
    subst gr
    rw [if_neg c]
    exact put_old ht hj r hne1
theorem rel_put2 {D : BD} {PN : List Int} {hs : List Int} {j an : Nat} {q : Int} {h : Heap} {bs bs1 bs' : List BH} {H : List (List Int)} (ht : hs.take D.nh = spreadOf PN j D.nh) (hj : j < 5) (gr : Grow (some q) D false h bs bs1) (pl : ∃ hne, bs' = putLast D hs bs1 hne) (r : rowsOf bs = (win H an).map (rowH (rowsAt PN D.nh D.bits))) (ha : 1 ≤ an ∧ an ≤ H.length) (hq : (an : Int) ≤ q) (hle : ∀ c ∈ H, c.length ≤ D.est) :
    ∃ an', an' = min (an + ((stepH D.est H (j : Int)).length - H.length)) q.toNat ∧ 1 ≤ an' ∧ an' ≤ (stepH D.est H (j : Int)).length ∧ rowsOf bs' = (win (stepH D.est H (j : Int)) an').map (rowH (rowsAt PN D.nh D.bits)) := by
  obtain ⟨hne, gr⟩ := gr
  obtain ⟨hne1, rfl⟩ := pl
  obtain ⟨e1, _, _⟩ := rows_last r hne
  have hH : H ≠ [] := fun z => by rw [z] at ha; simp at ha; omega
  have hlast := hle _ (getLastD_mem (a := []) hH)
  rw [win_last ha] at e1
  have ec : (bs.getLast hne).cnt = (H.getLastD []).length := (Prod.mk.inj e1).1
  have hbl : bs.length = an := by
    have := congrArg List.length r
    rw [List.length_map, win_len ha.2] at this
    simpa [rowsOf] using this
  unfold stepH
  dsimp only at gr
  rw [ec] at gr
  by_cases c : D.est ≤ (H.getLastD []).length
  · rw [if_pos (.inr (Nat.le_antisymm c hlast))] at gr
    obtain ⟨b, fb, rfl⟩ := gr
    rw [if_pos c]
    refine ⟨_, rfl, ?_⟩
    rw [List.length_append, List.length_singleton]
    by_cases z : (bs.length : Int) < q
    · have key := put_new (bs := if (bs.length : Int) < q then bs else bs.tail) (G := win H an) ht hj fb (by rw [if_pos z]; exact r) hne1
      rw [show min (an + (H.length + 1 - H.length)) q.toNat = an + 1 by omega, win_snoc ha.2]
      exact ⟨by omega, by omega, key⟩
    · have key := put_new (bs := if (bs.length : Int) < q then bs else bs.tail) (G := (win H an).tail) ht hj fb (by
        rw [if_neg z]
        unfold rowsOf at r ⊢
        rw [List.map_tail, r, List.map_tail]) hne1
      rw [show min (an + (H.length + 1 - H.length)) q.toNat = an by omega, win_tail ha]
      exact ⟨by omega, by omega, key⟩
  · have c' : ¬ D.est = (H.getLastD []).length := fun z => c (Nat.le_of_eq z)
    rw [if_neg (by simpa using c')] at gr
    subst gr
    rw [if_neg c]
    refine ⟨_, rfl, ?_⟩
    have hl : (H.dropLast ++ [H.getLastD [] ++ [(j : Int)]]).length = H.length := by
      rw [List.length_append, List.length_singleton, List.length_dropLast]; omega
    rw [hl, show min (an + (H.length - H.length)) q.toNat = an by omega, win_set ha, ← win_last ha]
    exact ⟨by omega, by omega, put_old ht hj r hne1⟩
theorem rel_push2 {D : BD} {rows : List (List Int)} {an : Nat} {q : Int} {h : Heap} {bs bs' : List BH} {H : List (List Int)} (gr : Grow (some q) D true h bs bs') (r : rowsOf bs = (win H an).map (rowH rows)) (ha : 1 ≤ an ∧ an ≤ H.length) (hq : (an : Int) ≤ q) :
    ∃ an', an' = min (an + ((H ++ [[]]).length - H.length)) q.toNat ∧ 1 ≤ an' ∧ an' ≤ (H ++ [[]]).length ∧ rowsOf bs' = (win (H ++ [[]]) an').map (rowH rows) := by
  obtain ⟨hne, gr⟩ := gr
  have hbl : bs.length = an := by
    have := congrArg List.length r
    rw [List.length_map, win_len ha.2] at this
    simpa [rowsOf] using this
  dsimp only at gr
  rw [if_pos (.inl rfl)] at gr
  obtain ⟨b, fb, rfl⟩ := gr
  refine ⟨_, rfl, ?_⟩
  rw [List.length_append, List.length_singleton, hbl]
  by_cases z : (an : Int) < q
  · simp only [if_pos z]
    rw [show min (an + (H.length + 1 - H.length)) q.toNat = an + 1 by omega, win_snoc ha.2]
    exact ⟨by omega, by omega, rows_push fb r⟩
  · simp only [if_neg z]
    rw [show min (an + (H.length + 1 - H.length)) q.toNat = an by omega, win_tail ha]
    refine ⟨by omega, by omega, rows_push fb ?_⟩
    unfold rowsOf at r ⊢
    rw [List.map_tail, r, List.map_tail]
theorem rel_push1 {D : BD} {rows : List (List Int)} {h : Heap} {bs bs' : List BH} {H : List (List Int)} (gr : Grow none D true h bs bs') (r : rowsOf bs = H.map (rowH rows)) : rowsOf bs' = (H ++ [[]]).map (rowH rows) := by
  obtain ⟨hne, gr⟩ := gr
  dsimp only at gr
  rw [if_pos (.inl rfl)] at gr
  obtain ⟨b, fb, rfl⟩ := gr
  exact rows_push fb r
end
section
section
variable {w : World} {A : Around} {s : Shared} {h₀ : Heap} {D : BD} {e de L : Addr} {added : Int} {bs : List BH} {r : Option Int} {E : Value → Shared → Prop} {Q2 : Value × List Value → Shared → Prop} {pl : Sem Bool}
abbrev altAt (r : Option Int) : Addr := match r with | none => 439 | some _ => 506
theorem meth_addalt (O : On w h₀ s.heap) (Z : Fil r D h₀ s.heap e de L added bs) (h : Q2 (.ref (altAt r), [.ref e]) s) : wpAny (model PySem.Challenge.rw_sv0019_01.row.prog w) A (getMethod (.ref e) (Str.ofString "add_alt") pl) Q2 E s := by
  have X : (hd1.heap_39 w.params).In s.heap := O.wd.1.keeps O.stays
  obtain ⟨ox, I⟩ := fil_inst Z
  cases r with
  | none => refine' method_fn (C := 457) (f := 439) (od := some (dictOf [] 0)) X I ?y1 ?y2 ?y3 ?y4 ?y5 h; (case y1 => k_is); (case y2 => k_is); (case y3 => k_is); (case y4 => k_is); (case y5 => exact rfl)
  | some q => refine' method_fn (C := 539) (f := 506) (od := some (dictOf [] 0)) X I ?y1 ?y2 ?y3 ?y4 ?y5 h; (case y1 => k_is); (case y2 => k_is); (case y3 => k_is); (case y4 => k_is); (case y5 => exact rfl)
end
theorem own_sub {e de Lq : Addr} {bs : List BH} : ∀ a ∈ 418 :: e :: Lq :: feet bs, a ∈ 418 :: ftOf e de Lq bs := fun a ha => by
  rcases List.mem_cons.mp ha with rfl | ha
  · exact .head _
  rcases List.mem_cons.mp ha with rfl | ha
  · exact .tail _ (.head _)
  rcases List.mem_cons.mp ha with rfl | ha
  · exact .tail _ (.tail _ (.tail _ (.head _)))
  · exact .tail _ (.tail _ (.tail _ (.tail _ ha)))
theorem res1 {D : BD} {PN : List Int} {hs : List Int} {j : Nat} {h : Heap} {fo : Bool} {bs bs1 bs' : List BH} {I : List (List Int)} {l l' : List Int} (ok : D.Ok) (ht : hs.take D.nh = spreadOf PN j D.nh) (hj : j < 5) (r : rowsOf bs = (heapsOf D.est (I ++ [l])).map (rowH (rowsAt PN D.nh D.bits)))
    (hl : l' = (if fo || !toldP (heapsOf D.est (I ++ [l])) (rowsAt PN D.nh D.bits) ((rowsAt PN D.nh D.bits).getD j []) then l ++ [(j : Int)] else l))
    (x : if fo = false ∧ bs.any (BH.has D hs) = true then bs' = bs else Grow none D false h bs bs1 ∧ ∃ hne, bs' = putLast D hs bs1 hne) : rowsOf bs' = (heapsOf D.est (I ++ [l'])).map (rowH (rowsAt PN D.nh D.bits)) := by
  have te := told_eq ok.bits r ht hj
  rw [te] at x
  cases hT : toldP (heapsOf D.est (I ++ [l])) (rowsAt PN D.nh D.bits) ((rowsAt PN D.nh D.bits).getD j []) with
  | true =>
    rw [hT] at x hl
    cases fo with
    | false =>
      rw [if_pos ⟨rfl, rfl⟩] at x
      rw [hl, x]; simpa using r
    | true =>
      rw [if_neg (by simp)] at x
      rw [hl]
      simp only [Bool.true_or, if_true]
      rw [heaps_put ok.est]
      exact rel_put1 ht hj x.1 x.2 r
  | false =>
    rw [hT] at x hl
    rw [if_neg (by simp)] at x
    rw [hl]
    simp only [Bool.not_false, Bool.or_true, if_true]
    rw [heaps_put ok.est]
    exact rel_put1 ht hj x.1 x.2 r
theorem res2 {D : BD} {PN : List Int} {hs : List Int} {j an : Nat} {q : Int} {h : Heap} {fo : Bool} {bs bs1 bs' : List BH} {I : List (List Int)} {l l' : List Int} (ok : D.Ok) (ht : hs.take D.nh = spreadOf PN j D.nh) (hj : j < 5) (r : rowsOf bs = (win (heapsOf D.est (I ++ [l])) an).map (rowH (rowsAt PN D.nh D.bits))) (ha : 1 ≤ an ∧ an ≤ (heapsOf D.est (I ++ [l])).length) (hq : (an : Int) ≤ q)
    (hl : l' = (if fo || !toldP (win (heapsOf D.est (I ++ [l])) an) (rowsAt PN D.nh D.bits) ((rowsAt PN D.nh D.bits).getD j []) then l ++ [(j : Int)] else l))
    (x : if fo = false ∧ bs.any (BH.has D hs) = true then bs' = bs else Grow (some q) D false h bs bs1 ∧ ∃ hne, bs' = putLast D hs bs1 hne) :
    ∃ an', an' = min (an + ((heapsOf D.est (I ++ [l'])).length - (heapsOf D.est (I ++ [l])).length)) q.toNat ∧ 1 ≤ an' ∧ an' ≤ (heapsOf D.est (I ++ [l'])).length ∧ rowsOf bs' = (win (heapsOf D.est (I ++ [l'])) an').map (rowH (rowsAt PN D.nh D.bits)) := by
  have te := told_eq ok.bits r ht hj
  rw [te] at x
  have same : l' = l → bs' = bs → ∃ an', an' = min (an + ((heapsOf D.est (I ++ [l'])).length - (heapsOf D.est (I ++ [l])).length)) q.toNat ∧ 1 ≤ an' ∧ an' ≤ (heapsOf D.est (I ++ [l'])).length ∧ rowsOf bs' = (win (heapsOf D.est (I ++ [l'])) an').map (rowH (rowsAt PN D.nh D.bits)) := fun e1 e2 => by
    subst e1 e2
    exact ⟨an, by omega, ha.1, ha.2, r⟩
  have put : l' = l ++ [(j : Int)] → (Grow (some q) D false h bs bs1 ∧ ∃ hne, bs' = putLast D hs bs1 hne) → ∃ an', an' = min (an + ((heapsOf D.est (I ++ [l'])).length - (heapsOf D.est (I ++ [l])).length)) q.toNat ∧ 1 ≤ an' ∧ an' ≤ (heapsOf D.est (I ++ [l'])).length ∧ rowsOf bs' = (win (heapsOf D.est (I ++ [l'])) an').map (rowH (rowsAt PN D.nh D.bits)) := fun e1 e2 => by
    subst e1
    rw [heaps_put ok.est]
    exact rel_put2 ht hj e2.1 e2.2 r ha hq fun c hc => heaps_le hc
  cases hT : toldP (win (heapsOf D.est (I ++ [l])) an) (rowsAt PN D.nh D.bits) ((rowsAt PN D.nh D.bits).getD j []) with
  | true =>
    rw [hT] at x hl
    cases fo with
    | false =>
      rw [if_pos ⟨rfl, rfl⟩] at x
      exact same (by simpa using hl) x
    | true =>
      rw [if_neg (by simp)] at x
      exact put (by simpa using hl) x
  | false =>
    rw [hT] at x hl
    rw [if_neg (by simp)] at x
    exact put (by simpa using hl) x
theorem Nest.pairs {K : Addr → Obj → Prop} {ts : List Value} {ls : List (List Int)} (x : Nest K ts ls) : ∃ ps : List (Addr × Obj), Nest (fun a o => (a, o) ∈ ps) ts ls ∧ ∀ p ∈ ps, K p.1 p.2 := by
  induction x with
  | nil => exact ⟨[], .nil, fun _ h => nomatch h⟩
  | @cons r vs ts k ns rest hr hv _ ih =>
    obtain ⟨ps, h1, h2⟩ := ih
    refine ⟨(r, listO vs k) :: ps, .cons (.head _) hv (h1.mono fun a o z => .tail _ z), fun p hp => ?_⟩
    rcases List.mem_cons.mp hp with rfl | hp
    · exact hr
    · exact h2 p hp
theorem min_keep {prog : Program} {w : World} {A : Around} {E : Value → Shared → Prop} {s : Shared} {g : Heap} {L : Addr} {m : Str → Option Value} {news : List (Addr × Obj)} {a b : Int} {t u : Tok} {Q : Value → Shared → Prop} (hh : A.handled = none) (F : Fr g L s.heap m) (N : News g L s.heap news)
    (h : ∀ h' tk tt, Mod [] s.heap h' → Fr g L h' m → News g L h' news → Q (.int (min a b) tt) { s with heap := h', toks := tk }) : wpAny (model prog w) A (call (.builtin "min") [.int a t, .int b u]) Q E s := by
  refine min_two_ints hh fun h' tk hk => ?_
  have key := fun tt => h h' tk tt (fun b o _ e => hk b o e) (F.keeps hk) (N.grown hk)
  by_cases c : b < a
  · rw [if_pos c]; rw [Int.min_eq_right (Int.le_of_lt c)] at key; exact key _
  · rw [if_neg c]; rw [Int.min_eq_left (Int.not_lt.mp c)] at key; exact key _
theorem GS.take {s0 : Shared} {K : Cst} {X : List Addr} {stb : List (Addr × Obj)} {t1 t2 : Int} {b1 b2 : List BH} {m : Str → Option Value} {cells : List (Addr × Obj)} {s : Shared} {h' : Heap} {tk' : Nat} {ps : List (Addr × Obj)} (Z : GS s0 K X stb t1 t2 b1 b2 m cells s) (M : Mod [] s.heap h') (k : ∀ p ∈ ps, h'.get? p.1 = some p.2 ∧ s.heap.get? p.1 = none) : GS s0 K X (ps ++ stb) t1 t2 b1 b2 m cells { s with heap := h', toks := tk' } := by
  refine Z.walkN (M.mono fun _ z => nomatch z) (fr_mod0 Z.fr M) (news_mod0 Z.nw M) (fun a ha => ⟨.inl ha, ?_⟩) Z.hL Z.hX (fun p hp => ?_)
  · obtain ⟨o, e⟩ := (Z.x0 a ha).2
    exact ⟨o, M _ _ (fun z => nomatch z) e⟩
  · rcases List.mem_append.mp hp with hp | hp
    · obtain ⟨q1, q2⟩ := k p hp
      obtain ⟨l1, l2, l3⟩ := Z.live q2
      exact ⟨q1, Z.cg l1, l2, l3⟩
    · exact Z.sbX (M.mono fun _ z => nomatch z) (fun a ha => .inl ha) p hp
theorem GS.stabM {s0 : Shared} {K : Cst} {X : List Addr} {stb : List (Addr × Obj)} {t1 t2 : Int} {b1 b2 : List BH} {m : Str → Option Value} {cells : List (Addr × Obj)} {s : Shared} {h' : Heap} (Z : GS s0 K X stb t1 t2 b1 b2 m cells s) (M : Mod (K.L :: cells.map (·.1)) s.heap h') {a : Addr} {o : Obj} (z : (a, o) ∈ stb) : h'.get? a = some o := by
  obtain ⟨q1, q2, q3, q4⟩ := Z.sb _ z
  refine M _ _ (fun y => q3 ?_) q1
  rcases List.mem_cons.mp y with y | y
  · exact y ▸ Z.hL
  · obtain ⟨p, hp, e⟩ := List.mem_map.mp y
    exact e ▸ Z.hX p hp
end
section
structure OneAt {δ : Type} (prog : Program) (w : World) (A : Around) (env : Env) (g : Heap) (L : Addr) (m : Str → Option Value) (elt : PySem.Expr) (x : Str) (scope : Scope) (cl : List (Str × Addr)) (P : Value → δ → (Addr → Obj → Prop) → Prop) (f : Nat → δ) (xs : Str) (s₁ : Shared) (Q : Value → Shared → Prop) : Prop where
  el : ∀ i c u h' tk C m', xs.cps[i]? = some c → Mod [L] s₁.heap h' → Fr g L h' m → s₁.heap.get? C = none → h'.Ns C m' → m' x = some (.str ⟨#[c]⟩ u) →
     wpAny (model prog w) A (eval elt (compEnvC scope cl C env)) (fun r s₂ => ∃ h2 tk2, s₂ = { s₁ with heap := h2, toks := tk2 } ∧ Mod [L] h' h2 ∧ Fr g L h2 m ∧ P r (f i) (fun a o => h2.get? a = some o ∧ h'.get? a = none)) (fun _ _ => False) { s₁ with heap := h', toks := tk }
  fin : ∀ D h' tk ys, Mod [L] s₁.heap h' → Fr g L h' m → s₁.heap.get? D = none → h'.get? D = some (LCg.lst ys) → Paired (fun v d => P v d (fun a o => h'.get? a = some o ∧ s₁.heap.get? a = none ∧ a ≠ D)) ys ((List.range xs.cps.size).map f) → Q (.ref D) { s₁ with heap := h', toks := tk }
theorem not3 {a b c d : Addr} (h1 : a ≠ b) (h2 : a ≠ c) (h3 : a ≠ d) : a ∉ [b, c, d] := fun q => by
  rcases List.mem_cons.mp q with q | q
  · exact h1 q
  rcases List.mem_cons.mp q with q | q
  · exact h2 q
  · exact h3 (List.mem_singleton.mp q)
section
variable {δ : Type} {prog : Program} {w : World} {A : Around} {env : Env} {g : Heap} {L : Addr} {m : Str → Option Value} {elt i1 : PySem.Expr} {x : Str} {px : Pos} {scope : Scope} {pos : Pos} {cl : List (Str × Addr)} {P : Value → δ → (Addr → Obj → Prop) → Prop} {f : Nat → δ} {xs : Str} {tx : Tok} {s₁ : Shared} {Q : Value → Shared → Prop} {R : Result → Shared → Prop}
theorem one_body {I D C : Addr} {h0 : Heap} {tk0 : Nat} {m0 : Str → Option Value} (hP : ∀ v d K K', (∀ a o, K a o → K' a o) → P v d K → P v d K') (hA : A.handled = none) (hkind : scope.kind = .function)
    (hx : scope.names.lookup x = some .local) (hn : xs.cps.size ≤ 1000) (gs : ∀ b o, g.get? b = some o → s₁.heap.get? b = some o) (Llive : ∃ o, s₁.heap.get? L = some o)
    (T : OneAt prog w A env g L m elt x scope cl P f xs s₁ Q) (nI : s₁.heap.get? I = none) (nD : s₁.heap.get? D = none) (nC : s₁.heap.get? C = none) (hID : I ≠ D) (hIC : I ≠ C) (hDC : D ≠ C)
    (M0 : Mod [L] s₁.heap h0) (F0 : Fr g L h0 m) (hit : h0.IsStrIter I "str_ascii_iterator" xs tx 0) (hD : h0.get? D = some (LCg.lst [])) (hn0 : h0.Ns C m0)
    (hR : ∀ h' tk m' ys, Mod [L] s₁.heap h' → Fr g L h' m → h'.Ns C m' → h'.get? D = some (LCg.lst ys) → Paired (fun v d => P v d (KK s₁.heap [I, C, D] h')) ys ((List.range xs.cps.size).map f) → R (.ok .next) { s₁ with heap := h', toks := tk }) :
    codeAny (model prog w) A (.compLoop (.ListComp elt [⟨.Name x px, i1, [], 0⟩] scope pos) 0 (.ref I) (.ref D) (compEnvC scope cl C env)) R { s₁ with heap := h0, toks := tk0 } := by
  have LI : L ≠ I := fun z => by obtain ⟨o, e⟩ := Llive; rw [z, nI] at e; cases e
  have LC : L ≠ C := fun z => by obtain ⟨o, e⟩ := Llive; rw [z, nC] at e; cases e
  have LD : L ≠ D := fun z => by obtain ⟨o, e⟩ := Llive; rw [z, nD] at e; cases e
  have gn : ∀ {a : Addr}, s₁.heap.get? a = none → g.get? a = none := fun {a} n => g_new gs n
  have step : ∀ {a : Addr} {h' h'' : Heap}, s₁.heap.get? a = none → L ≠ a → Mod [L] s₁.heap h' → Fr g L h' m → (∀ b o, b ≠ a → h'.get? b = some o → h''.get? b = some o) → Mod [L] s₁.heap h'' ∧ Fr g L h'' m := fun {a h' h''} na hL M F k =>
    ⟨fun b o hb e => k b o (fun z => by rw [z, na] at e; cases e) (M b o hb e), fr_mod (W := [a]) F (fun b o hb e => k b o (fun z => hb (z ▸ .head _)) e) (fun z => hL (List.mem_singleton.mp z)) (fun b hb => by rw [List.mem_singleton.mp hb]; exact gn na)⟩
  have itk : ∀ {h' h'' : Heap} {i : Nat}, h'.IsStrIter I "str_ascii_iterator" xs tx i → (∀ o, h'.get? I = some o → h''.get? I = some o) → h''.IsStrIter I "str_ascii_iterator" xs tx i := fun st k => let ⟨o, e, r⟩ := st; ⟨o, k o e, r⟩
  have W1 := Walks.strAscii (prog := prog) (w := w) hA I xs tx
  refine codeAny_compLoop_tests (fun k s' => ∃ h' tk i ys m', s' = { s₁ with heap := h', toks := tk } ∧ i ≤ xs.cps.size ∧ k = xs.cps.size + 1 - i ∧ Mod [L] s₁.heap h' ∧ Fr g L h' m ∧ h'.IsStrIter I "str_ascii_iterator" xs tx i ∧ h'.Ns C m' ∧ h'.get? D = some (LCg.lst ys) ∧
    Paired (fun v d => P v d (KK s₁.heap [I, C, D] h')) ys ((List.range i).map f)) ?_ (xs.cps.size + 1) ⟨h0, tk0, 0, [], m0, rfl, Nat.zero_le _, rfl, M0, F0, hit, hn0, hD, .nil⟩
  rintro k s' ⟨h', tk, i, ys, m', rfl, hi, rfl, M, F, hit', hn', hD', hp'⟩
  by_cases hlt : i < xs.cps.size
  · refine W1.item i _ _ _ hlt hit' fun v h2 tk2 hv st2 hk2 => ?_
    obtain ⟨c, u, hc, rfl⟩ := hv
    obtain ⟨M2, F2⟩ := step nI LI M F fun b o hb e => hk2 b o (by simpa using hb) e
    refine wpAny_assign_Name (wpAny_storeName_local (lookup_relabel_local hx) (hn'.at' fun o e => hk2 _ o (by simpa using Ne.symm hIC) e) (fun h3 hn3 hs3 => ?_) (by simp [compEnvC, relabel, hkind]))
    obtain ⟨M3, F3⟩ := step nC LC M2 F2 fun b o hb e => hs3.extBut b o hb e
    have hit3 : h3.IsStrIter I "str_ascii_iterator" xs tx (i + 1) := itk st2 fun o e => hs3.extBut I o hIC e
    have hD3 : h3.get? D = some (LCg.lst ys) := hs3.extBut D _ hDC (hk2 _ _ (by simpa using Ne.symm hID) hD')
    have hp3 : Paired (fun v d => P v d (KK s₁.heap [I, C, D] h3)) ys ((List.range i).map f) := Paired.mono (fun v d q => hP v d _ _ (fun a o z => ⟨hs3.extBut a o (fun e => z.2.2 (e ▸ .tail _ (.head _))) (hk2 a o (fun e => z.2.2 (List.mem_singleton.mp e ▸ .head _)) z.1), z.2⟩) q) hp'
    refine wpAny_tests_nil ?_
    simp only [if_true]
    refine wpAny_mono (T.el i c u h3 _ C _ hc M3 F3 nC hn3 (by simp)) (fun rv s4 h4' => ?_) (fun _ _ e => e.elim)
    obtain ⟨h4, tk4, rfl, M4, F4, p4⟩ := h4'
    have lv : ∀ {a : Addr} {o : Obj}, a ≠ L → h3.get? a = some o → h4.get? a = some o := fun ne e => M4 _ _ (fun z => ne (List.mem_singleton.mp z)) e
    have hlen : ys.length = i := by rw [hp'.length, List.length_map, List.length_range]
    refine append_at (hsz := by show ys.toArray.size ≤ sizeLine; rw [List.size_toArray, sizeLine_eq]; omega) (lv (Ne.symm LD) hD3) fun h5 hs5 hD5 => ?_
    have M34 : Mod [L] s₁.heap h4 := M3.trans M4
    obtain ⟨M5, F5⟩ := step nD LD M34 F4 fun b o hb e => hs5.extBut b o hb e
    refine ⟨xs.cps.size + 1 - (i + 1), by omega, h5, tk4, i + 1, ys ++ [rv], fun z => if z = x then some (.str ⟨#[c]⟩ u) else m' z, rfl, hlt, rfl, M5, F5, ?_, ?_, hD5.trans (congrArg some (LCg.lst_snoc ys rv)), ?_⟩
    · exact itk hit3 fun o e => hs5.extBut I o hID (lv (Ne.symm LI) e)
    · exact hn3.at' fun o e => hs5.extBut C o (Ne.symm hDC) (lv (Ne.symm LC) e)
    · rw [List.range_succ, List.map_append]
      refine Paired.snoc (Paired.mono (fun v d q => hP v d _ _ (fun a o z => ⟨?zz, z.2⟩) q) hp3) ?yy
      case zz =>
        have z1 := z.2.2
        simp only [List.mem_cons, List.not_mem_nil, or_false, not_or] at z1
        exact hs5.extBut a o z1.2.2 (lv (fun e => by obtain ⟨o', e'⟩ := Llive; rw [← e, z.2.1] at e'; cases e') z.1)
      case yy =>
        refine hP _ _ _ _ (fun a o z => ?_) p4
        have off : ∀ {b : Addr}, (∃ o, h3.get? b = some o) → a ≠ b := fun ⟨o', e⟩ q => by rw [q] at z; rw [z.2] at e; cases e
        have aD := off ⟨_, hD3⟩
        have aC := off (by obtain ⟨o, _, _, e, _⟩ := hn3; exact ⟨o, e⟩)
        have aI := off (by obtain ⟨o, e, _⟩ := hit3; exact ⟨o, e⟩)
        refine ⟨hs5.extBut a o aD z.1, ?_, not3 aI aC aD⟩
        cases q : s₁.heap.get? a with
        | none => rfl
        | some o' =>
          by_cases aL : a = L
          · obtain ⟨oL, _, _, eL, _⟩ := F3.ns
            rw [aL, eL] at z; cases z.2
          · have := M3 _ _ (fun y => aL (List.mem_singleton.mp y)) q
            rw [z.2] at this; cases this
  · obtain rfl : i = xs.cps.size := Nat.le_antisymm hi (Nat.not_lt.mp hlt)
    refine W1.done _ _ _ hit' fun h2 tk2 hk2 => ?_
    obtain ⟨M2, F2⟩ := step nI LI M F fun b o hb e => hk2 b o (by simpa using hb) e
    refine hR h2 tk2 m' ys M2 F2 (hn'.at' fun o e => hk2 _ o (by simpa using Ne.symm hIC) e) (hk2 _ _ (by simpa using Ne.symm hID) hD') ?_
    exact Paired.mono (fun v d q => hP v d _ _ (fun a o z => ⟨hk2 a o (fun e => z.2.2 (List.mem_singleton.mp e ▸ .head _)) z.1, z.2⟩) q) hp'
end
theorem one_comp {δ : Type} {prog : Program} {w : World} {A : Around} {E : Value → Shared → Prop} {env : Env} {g : Heap} {L : Addr} {m : Str → Option Value} {elt i1 : PySem.Expr} {x : Str} {px : Pos} {scope : Scope} {pos : Pos} {cl : List (Str × Addr)} {s : Shared} {xs : Str} {tx : Tok} (P : Value → δ → (Addr → Obj → Prop) → Prop) (f : Nat → δ) {Q : Value → Shared → Prop}
    (hP : ∀ v d K K', (∀ a o, K a o → K' a o) → P v d K → P v d K') (hA : A.handled = none) (hclos : closureFor scope env = pure cl) (hcell : ∀ y ∈ scope.names, y.2 ≠ .cell) (hkind : scope.kind = .function)
    (hnames : ∀ y ∈ scope.names, y.2 = .local → scope.names.lookup y.1 = some .local)
    (hx : scope.names.lookup x = some .local) (hn : xs.cps.size ≤ 1000) (hasc : xs.cps.all (· < 128) = true)
    (h : wpAny (model prog w) A (eval i1 env) (fun xv s₁ => xv = .str xs tx ∧ Fr g L s₁.heap m ∧ OneAt prog w A env g L m elt x scope cl P f xs s₁ Q) E s)
    (hs1 : ∀ x, foldedSetIterable i1 env x = pure x := by intro _; rfl) :
    wpAny (model prog w) A (eval (.ListComp elt [⟨.Name x px, i1, [], 0⟩] scope pos) env) Q E s := by
  rw [eval_ListComp]
  refine wpAny_comprehension_free (use := none) rfl hs1 hclos hkind hnames (wpAny_mono h (fun xv s₁ h₁ => ?_) fun _ _ e => e)
  obtain ⟨rfl, F, T⟩ := h₁
  refine wpAny_pyIter_ascii hasc ?_
  refine wpAny_newObj_type (wpAny_newFunctionEnv hcell (by intro y hy; simp at hy) (fun h₁ hns₁ hsb₁ => ?_) hkind)
  dsimp only at hns₁ hsb₁ ⊢
  generalize hH1 : s₁.heap.push { cls := .type "str_ascii_iterator", data := .fields #[.str xs tx, .int 0 0] } = H1 at hns₁ hsb₁ ⊢
  generalize hH2 : H1.push { cls := .type "list", dict := none, data := .seq ([] : List Value).toArray } = H2 at hns₁ hsb₁ ⊢
  have z1 : H1.objs.size = s₁.heap.objs.size + 1 := by rw [← hH1, Heap.size_push]
  have z2 : H2.objs.size = s₁.heap.objs.size + 2 := by rw [← hH2, Heap.size_push, z1]
  have nn : ∀ a, s₁.heap.objs.size ≤ a → s₁.heap.get? a = none := fun a ha => Heap.get?_none_of_le ha
  have nID : s₁.heap.objs.size ≠ H1.objs.size := by rw [z1]; exact Nat.ne_of_lt (Nat.lt_succ_self _)
  have nIC : s₁.heap.objs.size ≠ H2.objs.size := by rw [z2]; exact Nat.ne_of_lt (Nat.lt_succ_of_lt (Nat.lt_succ_self _))
  have nDC : H1.objs.size ≠ H2.objs.size := by rw [z1, z2]; exact Nat.ne_of_lt (Nat.lt_succ_self _)
  have up1 : ∀ b o, s₁.heap.get? b = some o → H1.get? b = some o := fun b o e => hH1 ▸ Heap.get?_push_of_some _ e
  have up2 : ∀ b o, H1.get? b = some o → H2.get? b = some o := fun b o e => hH2 ▸ Heap.get?_push_of_some _ e
  have up3 : ∀ b o, H2.get? b = some o → h₁.get? b = some o := fun b o e => hsb₁.extBut b o (Nat.ne_of_lt (Heap.lt_size e)) (Heap.get?_push_of_some _ e)
  have up : ∀ b o, s₁.heap.get? b = some o → h₁.get? b = some o := fun b o e => up3 _ _ (up2 _ _ (up1 _ _ e))
  have hit : h₁.IsStrIter s₁.heap.objs.size "str_ascii_iterator" xs tx 0 := ⟨_, up3 _ _ (up2 _ _ (hH1 ▸ Heap.get?_push_size _ rfl)), rfl, rfl⟩
  have hD : h₁.get? H1.objs.size = some (LCg.lst []) := up3 _ _ (hH2 ▸ Heap.get?_push_size _ rfl)
  have Lv : ∃ o, s₁.heap.get? L = some o := by obtain ⟨o, _, _, e, _⟩ := F.ns; exact ⟨o, e⟩
  have body : ∀ tk, codeAny (model prog w) A (.compLoop (.ListComp elt [⟨.Name x px, i1, [], 0⟩] scope pos) 0 (.ref s₁.heap.objs.size) (.ref H1.objs.size) (compEnvC scope cl H2.objs.size env)) (compPost (model prog w) A E none Q (.ref H1.objs.size) H2.objs.size) { s₁ with heap := h₁, toks := tk } := fun tk => by
    refine one_body hP hA hkind hx hn F.keep Lv T (nn _ (Nat.le_refl _)) (nn _ (by rw [z1]; omega)) (nn _ (by rw [z2]; omega)) nID nIC nDC (fun b o _ e => up _ _ e) (F.keeps up) hit hD hns₁ fun h' tk' m' ys M F' hn' hD' hp => ?_
    refine ⟨m', hn', fun h'' hs'' => ?_⟩
    have nC : s₁.heap.get? H2.objs.size = none := nn _ (by rw [z2]; omega)
    have LC : L ≠ H2.objs.size := fun z => by obtain ⟨o, e⟩ := Lv; rw [z, nC] at e; cases e
    refine T.fin _ h'' tk' ys (fun b o hb e => hs''.extBut b o (fun q => ?_) (M b o hb e)) (F'.change hs'' (Ne.symm LC) (g_new F.keep nC)) (nn _ (by rw [z1]; omega)) (hs''.extBut _ _ nDC hD') (Paired.mono (fun v d q => hP v d _ _ (fun a o z => ?_) q) hp)
    · have q' : b = H2.objs.size := q
      rw [q', nC] at e
      cases e
    · have z3 := z.2.2
      simp only [List.mem_cons, List.not_mem_nil, or_false, not_or] at z3
      exact ⟨hs''.extBut a o z3.2.1 z.1, z.2.1, z3.2.2⟩
  exact codeAny_compStart_list (body _) (wpAny_mono ((Walks.strAscii (prog := prog) (w := w) hA s₁.heap.objs.size xs tx).self 0 _ (fun v s' => codeAny (model prog w) A (.compLoop (.ListComp elt [⟨.Name x px, i1, [], 0⟩] scope pos) 0 v (.ref H1.objs.size) (compEnvC scope cl H2.objs.size env)) (compPost (model prog w) A E none Q (.ref H1.objs.size) H2.objs.size) s') (fun _ _ => False) hit (body _)) (fun _ _ z => z) fun _ _ z => z.elim)
end
section
theorem one_compA {δ : Type} {prog : Program} {w : World} {A : Around} {E : Value → Shared → Prop} {env : Env} {g : Heap} {L : Addr} {m : Str → Option Value} {elt i1 : PySem.Expr} {x y : Str} {px py : Pos} {scope : Scope} {pos spos : Pos} {cl : List (Str × Addr)} {s : Shared} {xs : Str} {tx : Tok} (P : Value → δ → (Addr → Obj → Prop) → Prop) (f : Nat → δ) {Q : Flow → Shared → Prop}
    (F₀ : Fr g L s.heap m) (hP : ∀ v d K K', (∀ a o, K a o → K' a o) → P v d K → P v d K') (hA : A.handled = none) (hLe : env.locals = L)
    (hsw : swapsWith (.ListComp elt [⟨.Name x px, i1, [], 0⟩] scope pos) (some (.Name y py)) spos.line env = pure true) (hclos : closureFor scope env = pure cl) (hcell : ∀ y ∈ scope.names, y.2 ≠ .cell) (hkind : scope.kind = .function)
    (hnames : ∀ y ∈ scope.names, y.2 = .local → scope.names.lookup y.1 = some .local)
    (hx : scope.names.lookup x = some .local) (hy : env.kindOf y = some .local) (hpk : (env.scope.kind == .class || (env.scope.kind == .module && env.locals != env.globals)) = false) (hn : xs.cps.size ≤ 1000) (hasc : xs.cps.all (· < 128) = true)
    (h : wpAny (model prog w) A (eval i1 env) (fun xv s₁ => xv = .str xs tx ∧ Fr g L s₁.heap m ∧ OneAt prog w A env g L m elt x scope cl P f xs s₁ (fun _ _ => True) ∧
      ∀ D h' tk ys, Mod [L] s₁.heap h' → Fr g L h' (fun z => if z = y then some (.ref D) else m z) → s₁.heap.get? D = none → h'.get? D = some (LCg.lst ys) → Paired (fun v d => P v d (fun a o => h'.get? a = some o ∧ s₁.heap.get? a = none ∧ a ≠ D)) ys ((List.range xs.cps.size).map f) → Q .next { s₁ with heap := h', toks := tk }) E s)
    (hs1 : ∀ x, foldedSetIterable i1 env x = pure x := by intro _; rfl) :
    wpAny (model prog w) A (exec (.Assign [.Name y py] (.ListComp elt [⟨.Name x px, i1, [], 0⟩] scope pos) spos) env) Q E s := by
  subst hLe
  rw [exec_Assign_Name_used _ _ _ _ hsw]
  refine wpAny_bind (wpAny_standAt (wpAny_bind ?_))
  show wpAny _ A (do let _ ← comprehension (.ListComp elt [⟨.Name x px, i1, [], 0⟩] scope pos) scope env _ (newList []) false (eval i1 env) (some (assign (.Name y py) env))) _ _ s
  refine wpAny_bind (wpAny_mono (wpAny_comprehension_free (use := some (assign (.Name y py) env)) (Q := fun _ s' => Q .next s') rfl hs1 hclos hkind hnames
    (wpAny_mono h (fun xv s₁ h₁ => ?_) fun _ _ e => e)) (fun _ s' hq => wpAny_pure (wpAny_pure hq)) fun _ _ e => e)
  obtain ⟨rfl, F, T, fin⟩ := h₁
  refine wpAny_pyIter_ascii hasc ?_
  refine wpAny_newObj_type (wpAny_newFunctionEnv hcell (by intro y hy; simp at hy) (fun h₁ hns₁ hsb₁ => ?_) hkind)
  dsimp only at hns₁ hsb₁ ⊢
  generalize hH1 : s₁.heap.push { cls := .type "str_ascii_iterator", data := .fields #[.str xs tx, .int 0 0] } = H1 at hns₁ hsb₁ ⊢
  generalize hH2 : H1.push { cls := .type "list", dict := none, data := .seq ([] : List Value).toArray } = H2 at hns₁ hsb₁ ⊢
  have z1 : H1.objs.size = s₁.heap.objs.size + 1 := by rw [← hH1, Heap.size_push]
  have z2 : H2.objs.size = s₁.heap.objs.size + 2 := by rw [← hH2, Heap.size_push, z1]
  have nn : ∀ a, s₁.heap.objs.size ≤ a → s₁.heap.get? a = none := fun a ha => Heap.get?_none_of_le ha
  have nID : s₁.heap.objs.size ≠ H1.objs.size := by rw [z1]; exact Nat.ne_of_lt (Nat.lt_succ_self _)
  have nIC : s₁.heap.objs.size ≠ H2.objs.size := by rw [z2]; exact Nat.ne_of_lt (Nat.lt_succ_of_lt (Nat.lt_succ_self _))
  have nDC : H1.objs.size ≠ H2.objs.size := by rw [z1, z2]; exact Nat.ne_of_lt (Nat.lt_succ_self _)
  have up1 : ∀ b o, s₁.heap.get? b = some o → H1.get? b = some o := fun b o e => hH1 ▸ Heap.get?_push_of_some _ e
  have up2 : ∀ b o, H1.get? b = some o → H2.get? b = some o := fun b o e => hH2 ▸ Heap.get?_push_of_some _ e
  have up3 : ∀ b o, H2.get? b = some o → h₁.get? b = some o := fun b o e => hsb₁.extBut b o (Nat.ne_of_lt (Heap.lt_size e)) (Heap.get?_push_of_some _ e)
  have up : ∀ b o, s₁.heap.get? b = some o → h₁.get? b = some o := fun b o e => up3 _ _ (up2 _ _ (up1 _ _ e))
  have hit : h₁.IsStrIter s₁.heap.objs.size "str_ascii_iterator" xs tx 0 := ⟨_, up3 _ _ (up2 _ _ (hH1 ▸ Heap.get?_push_size _ rfl)), rfl, rfl⟩
  have hD : h₁.get? H1.objs.size = some (LCg.lst []) := up3 _ _ (hH2 ▸ Heap.get?_push_size _ rfl)
  have Lv : ∃ o, s₁.heap.get? env.locals = some o := by obtain ⟨o, _, _, e, _⟩ := F.ns; exact ⟨o, e⟩
  have body : ∀ tk, codeAny (model prog w) A (.compLoop (.ListComp elt [⟨.Name x px, i1, [], 0⟩] scope pos) 0 (.ref s₁.heap.objs.size) (.ref H1.objs.size) (compEnvC scope cl H2.objs.size env)) (compPost (model prog w) A E (some (assign (.Name y py) env)) (fun _ s' => Q .next s') (.ref H1.objs.size) H2.objs.size) { s₁ with heap := h₁, toks := tk } := fun tk => by
    refine one_body hP hA hkind hx hn F.keep Lv T (nn _ (Nat.le_refl _)) (nn _ (by rw [z1]; omega)) (nn _ (by rw [z2]; omega)) nID nIC nDC (fun b o _ e => up _ _ e) (F.keeps up) hit hD hns₁ fun h' tk' m' ys M F' hn' hD' hp => ?_
    have nC : s₁.heap.get? H2.objs.size = none := nn _ (by rw [z2]; omega)
    have LC : env.locals ≠ H2.objs.size := fun z => by obtain ⟨o, e⟩ := Lv; rw [z, nC] at e; cases e
    have nD : s₁.heap.get? H1.objs.size = none := nn _ (by rw [z1]; omega)
    have LD : env.locals ≠ H1.objs.size := fun z => by obtain ⟨o, e⟩ := Lv; rw [z, nD] at e; cases e
    show wpAny _ A (assign (.Name y py) env (.ref H1.objs.size)) _ _ _
    refine wpAny_assign_Name (wpAny_storeName_local hy F'.ns (fun h₂ hn₂ hs₂ => ?_) hpk)
    have hL₀ : g.get? env.locals = none := Heap.get?_none_of_le F'.above
    have F₂ : Fr g env.locals h₂ (fun z => if z = y then some (.ref H1.objs.size) else m z) := ⟨hn₂, fun b o e => hs₂.extBut b o (fun q => by rw [q, hL₀] at e; cases e) (F'.keep b o e), F'.above⟩
    refine ⟨m', hn'.sameBut hs₂ (Ne.symm LC), fun h'' hs'' => ?_⟩
    have ofL : ∀ {a : Addr} {o : Obj}, a ≠ env.locals → a ≠ H2.objs.size → h'.get? a = some o → h''.get? a = some o := fun na nb e => hs''.extBut _ _ nb (hs₂.extBut _ _ na e)
    refine fin _ h'' _ ys (fun b o hb e => ofL (fun q => hb (q ▸ .head _)) (fun q => ?_) (M b o hb e)) (F₂.change hs'' (Ne.symm LC) (g_new F.keep nC)) nD (ofL (Ne.symm LD) nDC hD') (Paired.mono (fun v d q => hP v d _ _ (fun a o z => ?_) q) hp)
    · rw [q, nC] at e
      cases e
    · have z3 := z.2.2
      simp only [List.mem_cons, List.not_mem_nil, or_false, not_or] at z3
      exact ⟨ofL (fun e => by obtain ⟨o', e'⟩ := Lv; rw [← e, z.2.1] at e'; cases e') z3.2.1 z.1, z.2.1, z3.2.2⟩
  exact codeAny_compStart_list (body _) (wpAny_mono ((Walks.strAscii (prog := prog) (w := w) hA s₁.heap.objs.size xs tx).self 0 _ (fun v s' => codeAny (model prog w) A (.compLoop (.ListComp elt [⟨.Name x px, i1, [], 0⟩] scope pos) 0 v (.ref H1.objs.size) (compEnvC scope cl H2.objs.size env)) (compPost (model prog w) A E (some (assign (.Name y py) env)) (fun _ s' => Q .next s') (.ref H1.objs.size) H2.objs.size) s') (fun _ _ => False) hit (body _)) (fun _ _ z => z) fun _ _ z => z.elim)
end
section
local macro_rules | `(tactic| walk_at "bf sub") => `(tactic| (repeat (first | exact List.Sublist.refl _ | exact List.nil_sublist _ | refine List.Sublist.cons₂ _ ?_ | refine List.Sublist.cons _ ?_)))
local macro_rules | `(tactic| walk_at "bf sx") => `(tactic| repeat' (first | ((fail_if_success (with_reducible show wpAny _ _ (subscriptTail _ _ (Value.str _ _) _) _ _ _)); (first | (k_unfold; (try dsimp only)) | (walk1 <;> (try dsimp only)))) | fail "no step"))
local macro_rules | `(tactic| walk_at "bf s1") => `(tactic| repeat' (first | ((fail_if_success (with_reducible show wpAny _ _ (subscriptTail _ _ (Value.ref _) (Value.int _ _)) _ _ _)); (fail_if_success (with_reducible show wpAny _ _ (call (Value.ref _) _) _ _ _)); (fail_if_success (with_reducible show wpAny _ _ (execs (PySem.Stmt.If _ _ _ _ :: _) _) _ _ _)); (first | (k_unfold; (try dsimp only)) | (walk1 <;> (try dsimp only)))) | fail "no step"))
theorem seg1 {s0 : Shared} {K : Cst} {x : Fx} {A : Around} {X : List Addr} {stb : List (Addr × Obj)} {t1 t2 : Int} {b1 b2 : List BH} {v : Vars} {al pu : Int} {ta tp : Tok} {spI : List (List Int)} {spL : List Int} {tuI : List (List Int)} {tuL tried : List Int} {xj : Option Value}
    {spl tul : Addr} {svs tvs lvs uvs trv : List Value} {k1 k2 k3 k4 k5 : Nat} {oj : Obj} {s : Shared} {Q : Flow → Shared → Prop} {n : Int} {ti : Nat} {tt tx : Tok}
    (LA : LawAt K x A) (hv : v.t = some (.int (ti : Nat) tt) ∧ v.x = some (.int n tx)) (hti : ti < 10)
    (z1 : tuI.length < 100) (z2 : ∀ l ∈ tuI ++ [tuL], l.length < 100)
    {st0 st2 : List Stmt} (hst0 : st0 = forBody 10 (bodyAt (hd1.heap_39 K.w.params) 557)) (hst2 : st2 = (forBody 10 (bodyAt (hd1.heap_39 K.w.params) 557)).drop 2)
    (S : StA s0 K x X stb t1 t2 b1 b2 v al ta pu tp spI spL tuI tuL tried xj spl tul svs tvs lvs uvs trv k1 k2 k3 k4 k5 oj s)
    (k : ∀ (j : Nat) (v' : Vars) (ra : Addr) (rvs : List Value) (rrk : Nat) (fo : Bool) tk1 tk2 tk3 tk4 oj' s', j < 5 → ((n.fdiv 8 + (ti : Int)).fmod 5) = (j : Int) → v'.t = v.t → v'.x = v.x → v'.kind = some (.int ((n + (ti : Int)).fmod 8) tk1) → v'.key = some (.str ⟨#[97 + j]⟩ tk2) → v'.row = some (.ref ra) → v'.forced = some (.bool fo) → v'.begun = some (.int ((heapsOf K.D.est (tuI ++ [tuL])).length : Nat) tk3) →
      (ra, listO rvs rrk) ∈ stb → IntsAre rvs (x.rows.getD j []) → StA s0 K x X stb t1 t2 b1 b2 v' al ta pu tp spI spL tuI tuL tried (some (.int (j : Nat) tk4)) spl tul svs tvs lvs uvs trv k1 k2 k3 k4 k5 oj' s' →
      (∀ a ∈ X, a ∉ K.L :: (cells6 x spl tul svs tvs lvs uvs trv k1 k2 k3 k4 k5 oj).map (·.1) → ∀ o, s.heap.get? a = some o → s'.heap.get? a = some o) →
      wpAny (model PySem.Challenge.rw_sv0019_01.row.prog K.w) (A.deeper (lawEnv K.w K.L)) (execs st2 (lawEnv K.w K.L)) Q (fun _ _ => False) s') :
    wpAny (model PySem.Challenge.rw_sv0019_01.row.prog K.w) (A.deeper (lawEnv K.w K.L)) (execs st0 (lawEnv K.w K.L)) Q (fun _ _ => False) s := by
  subst hst0
  subst hst2
  revert k
  obtain ⟨w, g, c, L, D, q, e1, de1, L1, e2, de2, L2⟩ := K
  obtain ⟨PN, f, sp, tu, tr, cj, cd, cs, lr, l0, od, os, rts, rk, rows, tn, tm, te, td⟩ := x
  obtain ⟨hr, hfr, XK, ⟨p₁, loose, mean, mg, mb, T⟩, ok, hf, ff, HFs, ⟨sm1, sm2, sm3⟩, hq, hrows, hod, hos, ⟨ad1, ad2, ad3⟩⟩ := LA
  obtain ⟨vt, vx, vkind, vkey, vrow, vforced, vbegun, vpopped, vheaps, vsaid⟩ := v
  dsimp only at *
  obtain ⟨rfl, rfl⟩ := hv
  subst ad1 ad2 ad3
  obtain ⟨hd0, dp0, fr0, gd0, un0⟩ := A
  obtain rfl : hd0 = none := hr.hd
  refine' with_lookup (K := hd1.heap_39 w.params) (f := 557) ?ho ?_
  case ho => k_is
  intro hB hS
  unfold lawEnv
  rw [hB, hS]
  dsimp only [forBody, List.getElem?_cons_succ, List.getElem?_cons_zero, List.drop_succ_cons, List.drop_zero]
  intro k
  clear hB hS
  obtain ⟨G, nsp, isp, ntu, itu, itr, hj, nd, fx, nro⟩ := S
  obtain ⟨⟨a1, a2, a3, a4, a5⟩, ⟨a6, a7, a8, a9⟩, ⟨a10, a11, a12⟩, ⟨a13, a14⟩, a15⟩ := nodup6 nd
  obtain ⟨⟨c1, c2, c3, c4, c5⟩, ⟨c6, c7, c8, c9, c10⟩, ⟨c11, c12, c13, c14, c15, c16⟩⟩ := apart93 G fx
  dsimp only at a1 a2 a3 a4 a5 a6 a7 a8 a9 a10 a11 a12 a13 a14 a15 c1 c2 c3 c4 c5 c6 c7 c8 c9 c10 c11 c12 c13 c14 c15 c16
  have N0 := G.news _ fx
  obtain ⟨own, N, hoff, rb, rn⟩ := rebase2 G.fr N0
  have F := G.fr
  unfold lawMap at F
  simp only [cells6, fix3] at hoff
  simp only [cells6, fix3, List.cons_append, List.nil_append] at N
  obtain ⟨j, ej, hj5⟩ : ∃ j : Nat, (n.fdiv 8 + (ti : Int)).fmod 5 = (j : Int) ∧ j < 5 := by
    have z0 := Int.fmod_nonneg_of_pos (n.fdiv 8 + (ti : Int)) (show (0 : Int) < 5 by decide)
    have z1 := Int.fmod_lt_of_pos (n.fdiv 8 + (ti : Int)) (show (0 : Int) < 5 by decide)
    exact ⟨((n.fdiv 8 + (ti : Int)).fmod 5).toNat, by omega, by omega⟩
  have rl := nro.len
  have rl5 : rows.length = 5 := by rw [hrows]; simp
  obtain ⟨va, hva⟩ : ∃ va, rts[j]? = some va := ⟨_, List.getElem?_eq_getElem (by dsimp only at rl; omega)⟩
  obtain ⟨ra, rvs, rrk, rns, rfl, hr2, hb2, hi2⟩ := nro.get hva
  have hrg : rows.getD j [] = rns := by rw [List.getD_eq_getElem?_getD, hr2]; rfl
  have hab : (Str.ofString "abcde").length = 5 := by decide +kernel
  walk_at "bf sx"
  rw [ej]
  walk_at "bf s1"
  rename Fr _ _ _ _ => F1
  rename News _ _ _ _ => N1
  (try rw [ej])
  refine item_at (News.isList N1 (by k_mem)) (by omega) (by rw [Int.toNat_natCast]; exact hva) (by dsimp only at rl; omega) ?_
  walk_at "bf s1"
  rename_i oj1 dj1 _
  have M1 := rb _ _ F1 (news_sub N1 (by walk_at "bf sub"))
  have G1 := G.walk (tk' := 0) (cells' := [(sp, listO (svs ++ [.ref spl]) k1), (spl, listO lvs k2), (tu, listO (tvs ++ [.ref tul]) k3), (tul, listO uvs k4), (tr, listO trv k5), (L + 1 + 1 + 1 + 1, oj1)]) M1 F1 (news_sub N1 (by walk_at "bf sub")) rfl
  refine wpAny_call ?_
  refine heaps_spec (spans := tuI ++ [tuL]) (Wd.keeps (w := w) (h := g) ⟨XK, _, _, _, _, _, T⟩ F1.keep) (hr.down 146).deeper (N1 (tu, listO (tvs ++ [.ref tul]) k3) (by k_mem)).1 (Nest.append (ntu.mono fun a o z => G1.stab z) (.cons (N1 (tul, listO uvs k4) (by k_mem)).1 itu .nil)) ⟨ok.est, by omega⟩ (by simp; omega) (fun l hl => by have := z2 l hl; omega) ?_
  intro Dh hys h2 tk2 M2 nD hD hN
  dsimp only at M2 nD
  have hyl : hys.length = (heapsOf D.est (tuI ++ [tuL])).length := hN.len
  have hyb : (heapsOf D.est (tuI ++ [tuL])).length ≤ 100 * (100 + 1) := heaps_len (by simp; omega) (fun l hl => Nat.le_of_lt (z2 l hl))
  have F2 := fr_mod0 F1 M2
  have N2 := news_add (news_mod0 N1 M2) hD (fr_new F1 nD)
  clear F1 N1
  walk_at "bf s1"
  rename Fr _ _ _ _ => F3
  rename News _ _ _ _ => N3
  rw [letter5 hj5] at F3
  simp only [List.size_toArray, hyl] at F3
  rw [ej] at dj1
  have M3 := rb _ _ F3 (news_sub N3 (by walk_at "bf sub"))
  have F4 := canonF (base := Fx.base ⟨PN, f, sp, tu, tr, L + 1 + 1 + 1 + 1, L + 1 + 1 + 1, L + 1, lr, l0, od, os, rts, rk, rows, tn, tm, te, td⟩ ⟨w, g, c, L, D, q, e1, de1, L1, e2, de2, L2⟩) F3 rfl rfl (fun y y1 y2 y3 y4 y5 y6 y7 y8 y9 y10 y11 y12 => by simp only [if_neg y1, if_neg y2, if_neg y3, if_neg y4, if_neg y5, if_neg y6, if_neg y7, if_neg y8, if_neg y9, if_neg y10, if_neg y11, if_neg y12])
  have G3 := fun tk0 => G.walk (tk' := tk0) (cells' := [(sp, listO (svs ++ [.ref spl]) k1), (spl, listO lvs k2), (tu, listO (tvs ++ [.ref tul]) k3), (tul, listO uvs k4), (tr, listO trv k5), (L + 1 + 1 + 1 + 1, oj1)]) M3 F4 (news_sub N3 (by walk_at "bf sub")) rfl
  exact k j _ ra rvs rrk _ _ _ _ _ oj1 _ hj5 ej rfl rfl rfl rfl rfl rfl rfl hb2 (by rw [hrg]; exact hi2) ⟨G3 _, nsp, isp, ntu, itu, itr, dj1, nd, fx, nro⟩ (fun a ha hn o ho => M3 a o hn ho)
end
section
local macro_rules | `(tactic| walk_at "bf sub") => `(tactic| (repeat (first | exact List.Sublist.refl _ | exact List.nil_sublist _ | refine List.Sublist.cons₂ _ ?_ | refine List.Sublist.cons _ ?_)))
local macro_rules | `(tactic| walk_at "bf s2") => `(tactic| repeat' (first | ((fail_if_success (with_reducible show wpAny _ _ (subscriptTail _ _ (Value.ref _) (Value.int _ _)) _ _ _)); (fail_if_success (with_reducible show wpAny _ _ (subscriptTail _ _ (Value.ref _) (Value.ref _)) _ _ _)); (fail_if_success (with_reducible show wpAny _ _ (call (Value.ref _) _) _ _ _)); (fail_if_success (with_reducible show wpAny _ _ (call (Value.builtin "list.append") _) _ _ _)); (fail_if_success (with_reducible show wpAny _ _ (execs (PySem.Stmt.If _ _ _ _ :: PySem.Stmt.If _ _ _ _ :: PySem.Stmt.Assign _ _ _ :: _) _) _ _ _)); (first | (k_unfold; (try dsimp only)) | (walk1 <;> (try dsimp only)))) | fail "no step"))
theorem seg2a {s0 : Shared} {K : Cst} {x : Fx} {A : Around} {X : List Addr} {stb : List (Addr × Obj)} {t1 t2 : Int} {b1 b2 : List BH} {v : Vars} {al pu : Int} {ta tp : Tok} {spI : List (List Int)} {spL : List Int} {tuI : List (List Int)} {tuL tried : List Int}
    {spl tul : Addr} {svs tvs lvs uvs trv : List Value} {k1 k2 k3 k4 k5 : Nat} {oj : Obj} {s : Shared} {Q : Flow → Shared → Prop} {j : Nat} {tj : Tok} {fo : Bool} {ra : Addr} {rvs : List Value} {rrk : Nat}
    (LA : LawAt K x A) (hv : v.forced = some (.bool fo) ∧ v.row = some (.ref ra)) (hrow : (ra, listO rvs rrk) ∈ stb) (hri : IntsAre rvs (x.rows.getD j [])) (hj5 : j < 5) (P : Plain x spI spL tuI tuL)
    {st0 st1 : List Stmt} (hst0 : st0 = ifThen (forBody 10 (bodyAt (hd1.heap_39 K.w.params) 557)) 2) (hst1 : st1 = (ifThen (forBody 10 (bodyAt (hd1.heap_39 K.w.params) 557)) 2).drop 1)
    (S : StA s0 K x X stb t1 t2 b1 b2 v al ta pu tp spI spL tuI tuL tried (some (.int (j : Nat) tj)) spl tul svs tvs lvs uvs trv k1 k2 k3 k4 k5 oj s)
    (k : ∀ spL' lvs' k2' s', spL' = (if fo || !toldP (heapsOf K.D.est (spI ++ [spL])) x.rows (x.rows.getD j []) then spL ++ [(j : Int)] else spL) →
      StA s0 K x X stb t1 t2 b1 b2 v al ta pu tp spI spL' tuI tuL tried (some (.int (j : Nat) tj)) spl tul svs tvs lvs' uvs trv k1 k2' k3 k4 k5 oj s' →
      (∀ a ∈ X, a ∉ K.L :: (cells6 x spl tul svs tvs lvs uvs trv k1 k2 k3 k4 k5 oj).map (·.1) → ∀ o, s.heap.get? a = some o → s'.heap.get? a = some o) →
      wpAny (model PySem.Challenge.rw_sv0019_01.row.prog K.w) (A.deeper (lawEnv K.w K.L)) (execs st1 (lawEnv K.w K.L)) Q (fun _ _ => False) s') :
    wpAny (model PySem.Challenge.rw_sv0019_01.row.prog K.w) (A.deeper (lawEnv K.w K.L)) (execs st0 (lawEnv K.w K.L)) Q (fun _ _ => False) s := by
  subst hst0
  subst hst1
  revert k
  obtain ⟨w, g, c, L, D, q, e1, de1, L1, e2, de2, L2⟩ := K
  obtain ⟨PN, f, sp, tu, tr, cj, cd, cs, lr, l0, od, os, rts, rk, rows, tn, tm, te, td⟩ := x
  obtain ⟨hr, hfr, XK, ⟨p₁, loose, mean, mg, mb, T⟩, ok, hf, ff, HFs, ⟨sm1, sm2, sm3⟩, hq, hrows, hod, hos, ⟨ad1, ad2, ad3⟩⟩ := LA
  obtain ⟨vt, vx, vkind, vkey, vrow, vforced, vbegun, vpopped, vheaps, vsaid⟩ := v
  obtain ⟨z1, z2, z3, z4⟩ := P
  dsimp only at *
  obtain ⟨rfl, rfl⟩ := hv
  subst ad1 ad2 ad3
  obtain ⟨hd0, dp0, fr0, gd0, un0⟩ := A
  obtain rfl : hd0 = none := hr.hd
  refine' with_lookup (K := hd1.heap_39 w.params) (f := 557) ?ho ?_
  case ho => k_is
  intro hB hS
  unfold lawEnv
  rw [hB, hS]
  dsimp only [forBody, ifThen, List.getElem?_cons_succ, List.getElem?_cons_zero, List.drop_succ_cons, List.drop_zero]
  intro k
  clear hB hS
  obtain ⟨G, nsp, isp, ntu, itu, itr, hj, nd, fx, nro⟩ := S
  obtain ⟨⟨a1, a2, a3, a4, a5⟩, ⟨a6, a7, a8, a9⟩, ⟨a10, a11, a12⟩, ⟨a13, a14⟩, a15⟩ := nodup6 nd
  obtain ⟨⟨c1, c2, c3, c4, c5⟩, ⟨c6, c7, c8, c9, c10⟩, ⟨c11, c12, c13, c14, c15, c16⟩⟩ := apart93 G fx
  dsimp only at a1 a2 a3 a4 a5 a6 a7 a8 a9 a10 a11 a12 a13 a14 a15 c1 c2 c3 c4 c5 c6 c7 c8 c9 c10 c11 c12 c13 c14 c15 c16
  have N0 := G.news _ fx
  obtain ⟨own, N, hoff, rb, rn⟩ := rebase2 G.fr N0
  have F := G.fr
  unfold lawMap at F
  simp only [cells6, fix3] at hoff
  simp only [cells6, fix3, List.cons_append, List.nil_append] at N
  have rl5 : rows.length = 5 := by rw [hrows]; simp
  have O0 : Wd w g := ⟨XK, _, _, _, _, _, T⟩
  have lz : lvs.length < 20 := by rw [isp.length]; exact (z2 spL (by simp)).1
  have sz : svs.length < 20 := by rw [nsp.len]; exact z1
  -- the end, with the item taken in
  have fin : ∀ (tk0 : Nat) (h1 : Heap) (u9 : Tok), Fr g L h1 (lawMap (Fx.base ⟨PN, f, sp, tu, tr, L + 1 + 1 + 1 + 1, L + 1 + 1 + 1, L + 1, lr, l0, od, os, rts, rk, rows, tn, tm, te, td⟩ ⟨w, g, c, L, D, q, e1, de1, L1, e2, de2, L2⟩) ⟨vt, vx, vkind, vkey, some (.ref ra), some (.bool fo), vbegun, vpopped, vheaps, vsaid⟩ al ta pu tp) →
      News g L h1 ((sp, listO (svs ++ [.ref spl]) k1) :: (spl, listO lvs k2) :: (tu, listO (tvs ++ [.ref tul]) k3) :: (tul, listO uvs k4) :: (tr, listO trv k5) :: (L + 1 + 1 + 1 + 1, oj) :: (L + 1 + 1 + 1, od) :: (L + 1, os) :: (lr, listO rts rk) :: own) →
      ∀ h2, Heap.SameBut spl h1 h2 → h2.get? spl = some { cls := .type "list", data := .seq (lvs.toArray.push (.int (j : Nat) u9)) (k2 + 1) } →
      StA s0 ⟨w, g, c, L, D, q, e1, de1, L1, e2, de2, L2⟩ ⟨PN, f, sp, tu, tr, L + 1 + 1 + 1 + 1, L + 1 + 1 + 1, L + 1, lr, l0, od, os, rts, rk, rows, tn, tm, te, td⟩ X stb t1 t2 b1 b2 ⟨vt, vx, vkind, vkey, some (.ref ra), some (.bool fo), vbegun, vpopped, vheaps, vsaid⟩ al ta pu tp spI (spL ++ [(j : Int)]) tuI tuL tried (some (.int (j : Nat) tj)) spl tul svs tvs (lvs ++ [.int (j : Nat) u9]) uvs trv k1 (k2 + 1) k3 k4 k5 oj { s with heap := h2, toks := tk0 } ∧
      (∀ a ∈ X, a ∉ L :: [sp, spl, tu, tul, tr, L + 1 + 1 + 1 + 1] → ∀ o, s.heap.get? a = some o → h2.get? a = some o) := by
    intro tk0 h1 u9 F1 N1 h2 hs ho
    have M1 := rb _ _ F1 (news_sub N1 (by walk_at "bf sub"))
    have hspl := N1 (spl, listO lvs k2) (.tail _ (.head _))
    have F2 := F1.change hs hspl.2.1 hspl.2.2
    have ho' : h2.get? spl = some (listO (lvs ++ [.int (j : Nat) u9]) (k2 + 1)) := by rw [ho]; simp [listO]
    have N2 : News g L h2 [(sp, listO (svs ++ [.ref spl]) k1), (spl, listO (lvs ++ [.int (j : Nat) u9]) (k2 + 1)), (tu, listO (tvs ++ [.ref tul]) k3), (tul, listO uvs k4), (tr, listO trv k5), (L + 1 + 1 + 1 + 1, oj)] := by
      refine News.setAt (own := [(sp, listO (svs ++ [.ref spl]) k1)]) (rest := [(tu, listO (tvs ++ [.ref tul]) k3), (tul, listO uvs k4), (tr, listO trv k5), (L + 1 + 1 + 1 + 1, oj)]) (news_sub N1 (by walk_at "bf sub")) (fun p hp => ?_) (fun p hp => ?_) hs ho'
      · rw [List.mem_singleton.mp hp]; exact a1
      · simp only [List.mem_cons, List.not_mem_nil, or_false] at hp
        rcases hp with rfl | rfl | rfl | rfl
        · exact Ne.symm a6
        · exact Ne.symm a7
        · exact Ne.symm a8
        · exact Ne.symm a9
    have M2 : Mod (L :: [sp, spl, tu, tul, tr, L + 1 + 1 + 1 + 1]) s.heap h2 := fun b o hb e => hs.extBut b o (fun z => hb (by have z' : b = spl := z; rw [z']; exact .tail _ (.tail _ (.head _)))) (M1 b o hb e)
    exact ⟨⟨G.walk M2 F2 N2 rfl, nsp, isp.append (.cons _ _ .nil), ntu, itu, itr, hj, nd, fx, nro⟩, fun a _ hn o e => M2 a o hn e⟩
  cases fo with
  | true =>
    walk_at "bf s2"
    refine item_neg1 (News.isList N (by k_mem)) (by omega) ?_
    walk_at "bf s2"
    refine append_at (N (spl, listO lvs k2) (by k_mem)).1 (fun h2 hs ho => ?_) (by rw [sizeLine_eq, List.size_toArray]; omega)
    have S2 := fun tk0 => fin tk0 _ _ F N h2 hs ho
    walk_at "bf s2"
    exact k _ _ _ _ (by simp) (S2 _).1 (S2 0).2
  | false =>
    walk_at "bf s2"
    refine wpAny_call ?_
    refine heaps_spec (spans := spI ++ [spL]) (Wd.keeps O0 F.keep) (hr.down 146).deeper (N (sp, listO (svs ++ [.ref spl]) k1) (by k_mem)).1 (Nest.append (nsp.mono fun a o z => G.stab z) (.cons (N (spl, listO lvs k2) (by k_mem)).1 isp .nil)) ⟨ok.est, by omega⟩ (by simp; omega) (fun l hl => by have := (z2 l hl).1; omega) ?_
    intro Dh hys h2 tk2 M2 nD hD hN
    (try dsimp only at M2 nD)
    have F2 := fr_mod0 F M2
    have N2 := news_add (news_mod0 N M2) hD (fr_new F nD)
    walk_at "bf s2"
    refine wpAny_call ?_
    refine told_spec (heaps := heapsOf D.est (spI ++ [spL])) (rows := rows) (row := rows.getD j []) (Wd.keeps O0 F2.keep) (hr.down 146).deeper hD (hN.mono fun a o z => z.1) (N2 (lr, listO rts rk) (by k_mem)).1 (nro.mono fun a o z => M2 _ _ (fun z => nomatch z) (G.stab z)) (M2 _ _ (fun z => nomatch z) (G.stab hrow)) hri (fun hp hh jj hjj => by rw [rl5]; exact heaps_in (fun l hl => (z2 l hl).2) hp hh jj hjj) (Nat.lt_trans (heaps_few z1 fun l hl => (z2 l hl).1) (by decide)) (fun l hl => Nat.lt_trans (heaps_el (fun l hl => (z2 l hl).1) hl) (by decide)) (by omega) (by rw [hrows]; exact rows_len sm1) (by rw [hrows]; exact row_len sm1) ?_
    intro h3 tk3 M3
    (try dsimp only at M3)
    have F3 := fr_mod0 F2 M3
    have N3 := news_mod0 N2 M3
    have N4 := news_sub N3 (l := (sp, listO (svs ++ [.ref spl]) k1) :: (spl, listO lvs k2) :: (tu, listO (tvs ++ [.ref tul]) k3) :: (tul, listO uvs k4) :: (tr, listO trv k5) :: (L + 1 + 1 + 1 + 1, oj) :: (L + 1 + 1 + 1, od) :: (L + 1, os) :: (lr, listO rts rk) :: own) (by walk_at "bf sub")
    clear F2 N2 N3
    cases hT : toldP (heapsOf D.est (spI ++ [spL])) rows (rows.getD j []) with
    | true =>
      walk_at "bf s2"
      exact k spL lvs k2 _ (by rw [hT]; rfl) ⟨G.call0 (M2.trans M3), nsp, isp, ntu, itu, itr, hj, nd, fx, nro⟩ (fun a _ _ o ho => M3 _ _ (fun z => nomatch z) (M2 _ _ (fun z => nomatch z) ho))
    | false =>
      walk_at "bf s2"
      refine item_neg1 (News.isList N4 (by k_mem)) (by omega) ?_
      walk_at "bf s2"
      refine append_at (N4 (spl, listO lvs k2) (by k_mem)).1 (fun h4 hs ho => ?_) (by rw [sizeLine_eq, List.size_toArray]; omega)
      have S2 := fun tk0 => fin tk0 _ _ F3 N4 h4 hs ho
      walk_at "bf s2"
      exact k _ _ _ _ (by rw [hT]; rfl) (S2 _).1 (S2 0).2
end
section
local macro_rules | `(tactic| walk_at "bf none") => `(tactic| skip)
local macro_rules | `(tactic| walk_at "bf none") => `(tactic| skip)
local macro_rules | `(tactic| walk_at "bf sub") => `(tactic| (repeat (first | exact List.Sublist.refl _ | exact List.nil_sublist _ | refine List.Sublist.cons₂ _ ?_ | refine List.Sublist.cons _ ?_)))
local macro_rules | `(tactic| walk_at "bf s3") => `(tactic| repeat' (first | ((fail_if_success (with_reducible show wpAny _ _ (subscriptTail _ _ (Value.ref _) (Value.int _ _)) _ _ _)); (fail_if_success (with_reducible show wpAny _ _ (subscriptTail _ _ (Value.ref _) (Value.ref _)) _ _ _)); (fail_if_success (with_reducible show wpAny _ _ (call (Value.ref _) _) _ _ _)); (fail_if_success (with_reducible show wpAny _ _ (call (Value.builtin "list.append") _) _ _ _)); (fail_if_success (with_reducible show wpAny _ _ (execs (PySem.Stmt.If _ _ _ _ :: PySem.Stmt.Assign _ _ _ :: _) _) _ _ _)); (first | (k_unfold; (try dsimp only)) | (walk1 <;> (try dsimp only)))) | fail "no step"))
theorem seg2b {s0 : Shared} {K : Cst} {x : Fx} {A : Around} {X : List Addr} {stb : List (Addr × Obj)} {t1 t2 : Int} {b1 b2 : List BH} {v : Vars} {al pu : Int} {ta tp : Tok} {spI : List (List Int)} {spL : List Int} {tuI : List (List Int)} {tuL tried : List Int}
    {spl tul : Addr} {svs tvs lvs uvs trv : List Value} {k1 k2 k3 k4 k5 : Nat} {oj : Obj} {s : Shared} {Q : Flow → Shared → Prop} {j : Nat} {tj : Tok} {fo : Bool} {ra : Addr} {rvs : List Value} {rrk : Nat}
    (LA : LawAt K x A) (hv : v.forced = some (.bool fo) ∧ v.row = some (.ref ra)) (hrow : (ra, listO rvs rrk) ∈ stb) (hri : IntsAre rvs (x.rows.getD j [])) (hj5 : j < 5) (P : Plain x spI spL tuI tuL) {an : Nat} (hal : al = (an : Int)) (han : 1 ≤ an ∧ an ≤ (heapsOf K.D.est (tuI ++ [tuL])).length)
    {st0 st1 : List Stmt} (hst0 : st0 = (ifThen (forBody 10 (bodyAt (hd1.heap_39 K.w.params) 557)) 2).drop 1) (hst1 : st1 = (ifThen (forBody 10 (bodyAt (hd1.heap_39 K.w.params) 557)) 2).drop 2)
    (S : StA s0 K x X stb t1 t2 b1 b2 v al ta pu tp spI spL tuI tuL tried (some (.int (j : Nat) tj)) spl tul svs tvs lvs uvs trv k1 k2 k3 k4 k5 oj s)
    (k : ∀ tuL' uvs' k4' s', tuL' = (if fo || !toldP ((heapsOf K.D.est (tuI ++ [tuL])).drop ((heapsOf K.D.est (tuI ++ [tuL])).length - an)) x.rows (x.rows.getD j []) then tuL ++ [(j : Int)] else tuL) →
      StA s0 K x X stb t1 t2 b1 b2 v al ta pu tp spI spL tuI tuL' tried (some (.int (j : Nat) tj)) spl tul svs tvs lvs uvs' trv k1 k2 k3 k4' k5 oj s' →
      (∀ a ∈ X, a ∉ K.L :: (cells6 x spl tul svs tvs lvs uvs trv k1 k2 k3 k4 k5 oj).map (·.1) → ∀ o, s.heap.get? a = some o → s'.heap.get? a = some o) →
      wpAny (model PySem.Challenge.rw_sv0019_01.row.prog K.w) (A.deeper (lawEnv K.w K.L)) (execs st1 (lawEnv K.w K.L)) Q (fun _ _ => False) s') :
    wpAny (model PySem.Challenge.rw_sv0019_01.row.prog K.w) (A.deeper (lawEnv K.w K.L)) (execs st0 (lawEnv K.w K.L)) Q (fun _ _ => False) s := by
  subst hst0
  subst hst1
  revert k
  obtain ⟨w, g, c, L, D, q, e1, de1, L1, e2, de2, L2⟩ := K
  obtain ⟨PN, f, sp, tu, tr, cj, cd, cs, lr, l0, od, os, rts, rk, rows, tn, tm, te, td⟩ := x
  obtain ⟨hr, hfr, XK, ⟨p₁, loose, mean, mg, mb, T⟩, ok, hf, ff, HFs, ⟨sm1, sm2, sm3⟩, hq, hrows, hod, hos, ⟨ad1, ad2, ad3⟩⟩ := LA
  obtain ⟨vt, vx, vkind, vkey, vrow, vforced, vbegun, vpopped, vheaps, vsaid⟩ := v
  obtain ⟨z1, z2, z3, z4⟩ := P
  dsimp only at *
  subst hal
  obtain ⟨rfl, rfl⟩ := hv
  subst ad1 ad2 ad3
  obtain ⟨hd0, dp0, fr0, gd0, un0⟩ := A
  obtain rfl : hd0 = none := hr.hd
  refine' with_lookup (K := hd1.heap_39 w.params) (f := 557) ?ho ?_
  case ho => k_is
  intro hB hS
  unfold lawEnv
  rw [hB, hS]
  dsimp only [forBody, ifThen, List.getElem?_cons_succ, List.getElem?_cons_zero, List.drop_succ_cons, List.drop_zero]
  intro k
  clear hB hS
  obtain ⟨G, nsp, isp, ntu, itu, itr, hj, nd, fx, nro⟩ := S
  obtain ⟨⟨a1, a2, a3, a4, a5⟩, ⟨a6, a7, a8, a9⟩, ⟨a10, a11, a12⟩, ⟨a13, a14⟩, a15⟩ := nodup6 nd
  obtain ⟨⟨c1, c2, c3, c4, c5⟩, ⟨c6, c7, c8, c9, c10⟩, ⟨c11, c12, c13, c14, c15, c16⟩⟩ := apart93 G fx
  dsimp only at a1 a2 a3 a4 a5 a6 a7 a8 a9 a10 a11 a12 a13 a14 a15 c1 c2 c3 c4 c5 c6 c7 c8 c9 c10 c11 c12 c13 c14 c15 c16
  have N0 := G.news _ fx
  obtain ⟨own, N, hoff, rb, rn⟩ := rebase2 G.fr N0
  have F := G.fr
  unfold lawMap at F
  simp only [cells6, fix3] at hoff
  simp only [cells6, fix3, List.cons_append, List.nil_append] at N
  have rl5 : rows.length = 5 := by rw [hrows]; simp
  have O0 : Wd w g := ⟨XK, _, _, _, _, _, T⟩
  have lz : uvs.length < 20 := by rw [itu.length]; exact (z4 tuL (by simp)).1
  have sz : tvs.length < 20 := by rw [ntu.len]; exact z3
  -- the end, with the item taken in
  have fin : ∀ (tk0 : Nat) (h1 : Heap) (u9 : Tok), Fr g L h1 (lawMap (Fx.base ⟨PN, f, sp, tu, tr, L + 1 + 1 + 1 + 1, L + 1 + 1 + 1, L + 1, lr, l0, od, os, rts, rk, rows, tn, tm, te, td⟩ ⟨w, g, c, L, D, q, e1, de1, L1, e2, de2, L2⟩) ⟨vt, vx, vkind, vkey, some (.ref ra), some (.bool fo), vbegun, vpopped, vheaps, vsaid⟩ (an : Int) ta pu tp) →
      News g L h1 ((sp, listO (svs ++ [.ref spl]) k1) :: (spl, listO lvs k2) :: (tu, listO (tvs ++ [.ref tul]) k3) :: (tul, listO uvs k4) :: (tr, listO trv k5) :: (L + 1 + 1 + 1 + 1, oj) :: (L + 1 + 1 + 1, od) :: (L + 1, os) :: (lr, listO rts rk) :: own) →
      ∀ h2, Heap.SameBut tul h1 h2 → h2.get? tul = some { cls := .type "list", data := .seq (uvs.toArray.push (.int (j : Nat) u9)) (k4 + 1) } →
      StA s0 ⟨w, g, c, L, D, q, e1, de1, L1, e2, de2, L2⟩ ⟨PN, f, sp, tu, tr, L + 1 + 1 + 1 + 1, L + 1 + 1 + 1, L + 1, lr, l0, od, os, rts, rk, rows, tn, tm, te, td⟩ X stb t1 t2 b1 b2 ⟨vt, vx, vkind, vkey, some (.ref ra), some (.bool fo), vbegun, vpopped, vheaps, vsaid⟩ (an : Int) ta pu tp spI spL tuI (tuL ++ [(j : Int)]) tried (some (.int (j : Nat) tj)) spl tul svs tvs lvs (uvs ++ [.int (j : Nat) u9]) trv k1 k2 k3 (k4 + 1) k5 oj { s with heap := h2, toks := tk0 } ∧
      (∀ a ∈ X, a ∉ L :: [sp, spl, tu, tul, tr, L + 1 + 1 + 1 + 1] → ∀ o, s.heap.get? a = some o → h2.get? a = some o) := by
    intro tk0 h1 u9 F1 N1 h2 hs ho
    have M1 := rb _ _ F1 (news_sub N1 (by walk_at "bf sub"))
    have hspl := N1 (tul, listO uvs k4) (.tail _ (.tail _ (.tail _ (.head _))))
    have F2 := F1.change hs hspl.2.1 hspl.2.2
    have ho' : h2.get? tul = some (listO (uvs ++ [.int (j : Nat) u9]) (k4 + 1)) := by rw [ho]; simp [listO]
    have N2 : News g L h2 [(sp, listO (svs ++ [.ref spl]) k1), (spl, listO lvs k2), (tu, listO (tvs ++ [.ref tul]) k3), (tul, listO (uvs ++ [.int (j : Nat) u9]) (k4 + 1)), (tr, listO trv k5), (L + 1 + 1 + 1 + 1, oj)] := by
      refine News.setAt (own := [(sp, listO (svs ++ [.ref spl]) k1), (spl, listO lvs k2), (tu, listO (tvs ++ [.ref tul]) k3)]) (rest := [(tr, listO trv k5), (L + 1 + 1 + 1 + 1, oj)]) (news_sub N1 (by walk_at "bf sub")) (fun p hp => ?_) (fun p hp => ?_) hs ho'
      · simp only [List.mem_cons, List.not_mem_nil, or_false] at hp
        rcases hp with rfl | rfl | rfl
        · exact a3
        · exact a7
        · exact a10
      · simp only [List.mem_cons, List.not_mem_nil, or_false] at hp
        rcases hp with rfl | rfl
        · exact Ne.symm a13
        · exact Ne.symm a14
    have M2 : Mod (L :: [sp, spl, tu, tul, tr, L + 1 + 1 + 1 + 1]) s.heap h2 := fun b o hb e => hs.extBut b o (fun z => hb (by have z' : b = tul := z; rw [z']; exact .tail _ (.tail _ (.tail _ (.tail _ (.head _)))))) (M1 b o hb e)
    exact ⟨⟨G.walk M2 F2 N2 rfl, nsp, isp, ntu, itu.append (.cons _ _ .nil), itr, hj, nd, fx, nro⟩, fun a _ hn o e => M2 a o hn e⟩
  cases fo with
  | true =>
    walk_at "bf s3"
    refine item_neg1 (News.isList N (by k_mem)) (by omega) ?_
    walk_at "bf s3"
    refine append_at (N (tul, listO uvs k4) (by k_mem)).1 (fun h2 hs ho => ?_) (by rw [sizeLine_eq, List.size_toArray]; omega)
    have S2 := fun tk0 => fin tk0 _ _ F N h2 hs ho
    walk_at "bf s3"
    exact k _ _ _ _ (by simp) (S2 _).1 (S2 0).2
  | false =>
    walk_at "bf s3"
    refine wpAny_call ?_
    refine heaps_spec (spans := tuI ++ [tuL]) (Wd.keeps O0 F.keep) (hr.down 146).deeper (N (tu, listO (tvs ++ [.ref tul]) k3) (by k_mem)).1 (Nest.append (ntu.mono fun a o z => G.stab z) (.cons (N (tul, listO uvs k4) (by k_mem)).1 itu .nil)) ⟨ok.est, by omega⟩ (by simp; omega) (fun l hl => by have := (z4 l hl).1; omega) ?_
    intro Dh hys h2 tk2 M2 nD hD hN
    (try dsimp only at M2 nD)
    have F1 := fr_mod0 F M2
    have N1 := news_add (news_mod0 N M2) hD (fr_new F nD)
    have few := heaps_few (n := D.est) z3 fun l hl => (z4 l hl).1
    have hyl : hys.length = (heapsOf D.est (tuI ++ [tuL])).length := hN.len
    walk_at "bf s3"
    refine slice_neg (h := h2) rfl hD (by rw [hyl]; exact han) (by omega) ?_
    intro Ds h5 M5 nDs hDs
    (try dsimp only)
    have F2 := fr_mod0 F1 M5
    have N2 := news_add (news_mod0 N1 M5) hDs (fr_new F1 nDs)
    have hN2 : Nest (fun a o => h5.get? a = some o) (hys.drop (hys.length - an)) ((heapsOf D.est (tuI ++ [tuL])).drop ((heapsOf D.est (tuI ++ [tuL])).length - an)) := by
      rw [hyl]
      exact (hN.mono fun a o z => M5 _ _ (fun z => nomatch z) z.1).drop _
    clear F1 N1
    walk_at "bf s3"
    refine wpAny_call ?_
    refine told_spec (heaps := (heapsOf D.est (tuI ++ [tuL])).drop ((heapsOf D.est (tuI ++ [tuL])).length - an)) (rows := rows) (row := rows.getD j []) (Wd.keeps O0 F2.keep) (hr.down 146).deeper hDs hN2 (N2 (lr, listO rts rk) (by k_mem)).1 (nro.mono fun a o z => M5 _ _ (fun z => nomatch z) (M2 _ _ (fun z => nomatch z) (G.stab z))) (M5 _ _ (fun z => nomatch z) (M2 _ _ (fun z => nomatch z) (G.stab hrow))) hri (fun hp hh jj hjj => by rw [rl5]; exact heaps_in (fun l hl => (z4 l hl).2) hp (List.mem_of_mem_drop hh) jj hjj) (by rw [List.length_drop]; omega) (fun l hl => Nat.lt_trans (heaps_el (fun l hl => (z4 l hl).1) (List.mem_of_mem_drop hl)) (by decide)) (by omega) (by rw [hrows]; exact rows_len sm1) (by rw [hrows]; exact row_len sm1) ?_
    intro h3 tk3 M3
    (try dsimp only at M3)
    have F3 := fr_mod0 F2 M3
    have N3 := news_mod0 N2 M3
    have N4 := news_sub N3 (l := (sp, listO (svs ++ [.ref spl]) k1) :: (spl, listO lvs k2) :: (tu, listO (tvs ++ [.ref tul]) k3) :: (tul, listO uvs k4) :: (tr, listO trv k5) :: (L + 1 + 1 + 1 + 1, oj) :: (L + 1 + 1 + 1, od) :: (L + 1, os) :: (lr, listO rts rk) :: own) (by walk_at "bf sub")
    clear F2 N2 N3
    cases hT : toldP ((heapsOf D.est (tuI ++ [tuL])).drop ((heapsOf D.est (tuI ++ [tuL])).length - an)) rows (rows.getD j []) with
    | true =>
      walk_at "bf s3"
      exact k tuL uvs k4 _ (by rw [hT]; rfl) ⟨G.call0 ((M2.trans M5).trans M3), nsp, isp, ntu, itu, itr, hj, nd, fx, nro⟩ (fun a _ _ o ho => M3 _ _ (fun z => nomatch z) (M5 _ _ (fun z => nomatch z) (M2 _ _ (fun z => nomatch z) ho)))
    | false =>
      walk_at "bf s3"
      refine item_neg1 (News.isList N4 (by k_mem)) (by omega) ?_
      walk_at "bf s3"
      refine append_at (N4 (tul, listO uvs k4) (by k_mem)).1 (fun h4 hs ho => ?_) (by rw [sizeLine_eq, List.size_toArray]; omega)
      have S2 := fun tk0 => fin tk0 _ _ F3 N4 h4 hs ho
      walk_at "bf s3"
      exact k _ _ _ _ (by rw [hT]; rfl) (S2 _).1 (S2 0).2
end
section
local macro_rules | `(tactic| walk_at "bf none") => `(tactic| skip)
theorem spread_take {PN : List Int} {j n d : Nat} (h : n ≤ d) : (spreadOf PN j d).take n = spreadOf PN j n := by
  unfold spreadOf
  rw [← List.map_take, List.take_range, Nat.min_eq_left h]
theorem foot1 {K : Cst} {b1 b2 : List BH} {a : Addr} (h : a ∈ 418 :: ftOf K.e1 K.de1 K.L1 b1) : a ∈ foot K b1 b2 := by
  rcases List.mem_cons.mp h with rfl | z
  · exact .head _
  · exact .tail _ (List.mem_append_left _ z)
theorem foot2 {K : Cst} {b1 b2 : List BH} {a : Addr} (h : a ∈ 418 :: ftOf K.e2 K.de2 K.L2 b2) : a ∈ foot K b1 b2 := by
  rcases List.mem_cons.mp h with rfl | z
  · exact .head _
  · exact .tail _ (List.mem_append_right _ z)
local macro_rules | `(tactic| walk_at "FnAt") => `(tactic| assumption)
local macro_rules | `(tactic| walk_at "callWith ref") => `(tactic| (k_here; (with_reducible show wpAny _ _ (callWith _ (Value.ref _) [] (backTo _ (starEach (_ :: _) _)) []) _ _ _); (rename (FnAt _ _) => fnX); k_dflt (refine' callWith_F ?k1 ?_; (case k1 => exact fnX); k_whole)))
local macro_rules | `(tactic| walk_at "bf d1") => `(tactic| repeat' (first | ((fail_if_success (with_reducible show wpAny _ _ (getMethod (Value.ref _) _ _) _ _ _)); (fail_if_success (with_reducible show wpAny _ _ (call (Value.ref _) _) _ _ _)); (fail_if_success (with_reducible show wpAny _ _ (execs (PySem.Stmt.Assign _ _ _ :: _) _) _ _ _)); (first | (k_unfold; (try dsimp only)) | (walk1 <;> (try dsimp only)))) | fail "no step"))
local macro_rules | `(tactic| walk_at "bf d2") => `(tactic| walk_at "bf d1")
theorem seg3 {s0 : Shared} {K : Cst} {x : Fx} {A : Around} {X : List Addr} {stb : List (Addr × Obj)} {t1 t2 : Int} {b1 b2 : List BH} {v : Vars} {al pu : Int} {ta tp : Tok} {spI : List (List Int)} {spL spL0 : List Int} {tuI : List (List Int)} {tuL tuL0 tried : List Int}
    {spl tul : Addr} {svs tvs lvs uvs trv : List Value} {k1 k2 k3 k4 k5 : Nat} {oj : Obj} {s : Shared} {Q : Flow → Shared → Prop} {j an : Nat} {tj tkk tky : Tok} {fo : Bool} {kd : Int}
    (LA : LawAt K x A) (hv : v.forced = some (.bool fo) ∧ v.kind = some (.int kd tkk) ∧ v.key = some (.str ⟨#[97 + j]⟩ tky)) (hj5 : j < 5) (P : Plain x spI spL0 tuI tuL0) (hrw : x.rows = rowsAt x.PN K.D.nh K.D.bits)
    (r1 : rowsOf b1 = (heapsOf K.D.est (spI ++ [spL0])).map (rowH x.rows)) (r2 : rowsOf b2 = (win (heapsOf K.D.est (tuI ++ [tuL0])) an).map (rowH x.rows)) (han : 1 ≤ an ∧ an ≤ (heapsOf K.D.est (tuI ++ [tuL0])).length) (hq2 : (an : Int) ≤ K.q)
    (hsp : spL = (if fo || !toldP (heapsOf K.D.est (spI ++ [spL0])) x.rows (x.rows.getD j []) then spL0 ++ [(j : Int)] else spL0))
    (htu : tuL = (if fo || !toldP (win (heapsOf K.D.est (tuI ++ [tuL0])) an) x.rows (x.rows.getD j []) then tuL0 ++ [(j : Int)] else tuL0))
    {st0 st1 : List Stmt} (hst0 : st0 = (ifThen (forBody 10 (bodyAt (hd1.heap_39 K.w.params) 557)) 2).drop 2) (hst1 : st1 = (ifThen (forBody 10 (bodyAt (hd1.heap_39 K.w.params) 557)) 2).drop 3)
    (S : StA s0 K x X stb t1 t2 b1 b2 v al ta pu tp spI spL tuI tuL tried (some (.int (j : Nat) tj)) spl tul svs tvs lvs uvs trv k1 k2 k3 k4 k5 oj s)
    (k : ∀ b1' b2' an' s', rowsOf b1' = (heapsOf K.D.est (spI ++ [spL])).map (rowH x.rows) → an' = min (an + ((heapsOf K.D.est (tuI ++ [tuL])).length - (heapsOf K.D.est (tuI ++ [tuL0])).length)) K.q.toNat → 1 ≤ an' → an' ≤ (heapsOf K.D.est (tuI ++ [tuL])).length → rowsOf b2' = (win (heapsOf K.D.est (tuI ++ [tuL])) an').map (rowH x.rows) →
      StA s0 K x X stb (t1 + 1) (t2 + 1) b1' b2' v al ta pu tp spI spL tuI tuL tried (some (.int (j : Nat) tj)) spl tul svs tvs lvs uvs trv k1 k2 k3 k4 k5 oj s' →
      (∀ a ∈ X, ∀ o, s.heap.get? a = some o → s'.heap.get? a = some o) →
      wpAny (model PySem.Challenge.rw_sv0019_01.row.prog K.w) (A.deeper (lawEnv K.w K.L)) (execs st1 (lawEnv K.w K.L)) Q (fun _ _ => False) s') :
    wpAny (model PySem.Challenge.rw_sv0019_01.row.prog K.w) (A.deeper (lawEnv K.w K.L)) (execs st0 (lawEnv K.w K.L)) Q (fun _ _ => False) s := by
  have hb1 : b1.length < 900 := by
    have := congrArg List.length r1
    rw [List.length_map] at this
    have e := heaps_few (n := K.D.est) P.z1 fun l hl => (P.z2 l hl).1
    simp [rowsOf] at this
    omega
  have hb2 : b2.length < 900 := by
    have := congrArg List.length r2
    rw [List.length_map, win_len han.2] at this
    have e := heaps_few (n := K.D.est) P.z3 fun l hl => (P.z4 l hl).1
    simp [rowsOf] at this
    omega
  subst hst0
  subst hst1
  revert k
  obtain ⟨w, g, c, L, D, q, e1, de1, L1, e2, de2, L2⟩ := K
  obtain ⟨PN, f, sp, tu, tr, cj, cd, cs, lr, l0, od, os, rts, rk, rows, tn, tm, te, td⟩ := x
  obtain ⟨hr, hfr, XK, ⟨p₁, loose, mean, mg, mb, T⟩, ok, hf, ff, HFs, ⟨sm1, sm2, sm3⟩, hq, hrows, hod, hos, ⟨ad1, ad2, ad3⟩⟩ := LA
  obtain ⟨vt, vx, vkind, vkey, vrow, vforced, vbegun, vpopped, vheaps, vsaid⟩ := v
  dsimp only at *
  obtain ⟨rfl, rfl, rfl⟩ := hv
  subst hrw
  subst ad1 ad2 ad3
  obtain ⟨hd0, dp0, fr0, gd0, un0⟩ := A
  obtain rfl : hd0 = none := hr.hd
  refine' with_lookup (K := hd1.heap_39 w.params) (f := 557) ?ho ?_
  case ho => k_is
  intro hB hS
  unfold lawEnv
  rw [hB, hS]
  dsimp only [forBody, ifThen, ifElse, List.getElem?_cons_succ, List.getElem?_cons_zero, List.drop_succ_cons, List.drop_zero]
  intro k
  clear hB hS
  obtain ⟨G, nsp, isp, ntu, itu, itr, hj, nd, fx, nro⟩ := S
  have F := G.fr
  unfold lawMap at F
  have N := G.news _ fx
  simp only [cells6, fix3, List.cons_append, List.nil_append] at N
  by_cases hk0 : kd = 0
  · subst hk0
    cases fo with
    | true =>
      walk_at "bf d1"
      refine meth_addalt (h₀ := c) G.on G.f1 ?_
      (try dsimp only [altAt])
      have fn1 := Bf.FnAt.on (f := f) ff G.on
      walk_at "bf d1"
      refine wpAny_call ?_
      rw [show ((D.nh : Int) + 2) = ((D.nh + 2 : Nat) : Int) from rfl]
      refine HFs j (D.nh + 2) _ hj5 (by omega) _ _ _ _ G.on (hr.down 139).deeper ?_
      intro al1 ha1 tka1 Ma1 na1 Ia1
      (try dsimp only at Ma1 na1)
      have Ga1 := G.call0 (tk' := 0) Ma1
      have Fa1 := fr_mod0 F Ma1
      have Na1 := news_mod0 N Ma1
      obtain ⟨nx1, ny1, nz1⟩ := G.live na1
      clear F N
      walk_at "bf d1"
      refine wpAny_call ?_
      refine addalt_exp_true (q := q) (h₀ := c) (hs := spreadOf PN j (D.nh + 2)) (Ga1.on) (hr.down 109).deeper ok Ga1.f1 Ia1 (by simp [spreadOf]) (fun z => nz1 (.tail _ (List.mem_append_left _ (.tail _ (.tail _ (.tail _ z)))))) (fun z => nz1 (.tail _ (List.mem_append_left _ (z ▸ .tail _ (.tail _ (.head _)))))) Ga1.tab hb1 ?_
      intro bs1 bs1' s1 A1 T1 Fi1 O1 _ rr1
      have G5 := (Ga1.call0 (Mod.refl [] _)).call1 (W := 418 :: e1 :: L1 :: feet b1) A1 (fun a ha => own_sub a ha) T1 Fi1 O1
      have F5 := G5.fr
      unfold lawMap at F5
      have N5 := G5.news _ fx
      simp only [cells6, fix3, List.cons_append, List.nil_append] at N5
      clear Fa1 Na1
      walk_at "bf d1"
      refine meth_addalt (h₀ := c) G5.on G5.f2 ?_
      (try dsimp only [altAt])
      have fn2 := Bf.FnAt.on (f := f) ff G5.on
      walk_at "bf d1"
      refine wpAny_call ?_
      rw [show ((D.nh : Int) + 2) = ((D.nh + 2 : Nat) : Int) from rfl]
      refine HFs j (D.nh + 2) _ hj5 (by omega) _ _ _ _ G5.on (hr.down 139).deeper ?_
      intro al2 ha2 tka2 Ma2 na2 Ia2
      (try dsimp only at Ma2 na2)
      have Ga2 := G5.call0 (tk' := 0) Ma2
      have Fa2 := fr_mod0 F5 Ma2
      have Na2 := news_mod0 N5 Ma2
      obtain ⟨nx2, ny2, nz2⟩ := G5.live na2
      clear F5 N5
      walk_at "bf d1"
      refine wpAny_call ?_
      refine addalt_rot_true (q := q) (h₀ := c) (hs := spreadOf PN j (D.nh + 2)) (Ga2.on) (hr.down 109).deeper ok Ga2.f2 Ia2 (by simp [spreadOf]) (fun z => nz2 (.tail _ (List.mem_append_right _ (.tail _ (.tail _ (.tail _ z)))))) (fun z => nz2 (.tail _ (List.mem_append_right _ (z ▸ .tail _ (.tail _ (.head _)))))) Ga2.tab hb2 ?_
      intro bs2 bs2' s2 A2 T2 Fi2 O2 _ rr2
      have G6 := (Ga2.call0 (Mod.refl [] _)).call2 (W := 418 :: e2 :: L2 :: feet b2) A2 (fun a ha => own_sub a ha) T2 Fi2 O2
      have F6 := G6.fr
      unfold lawMap at F6
      have N6 := G6.news _ fx
      simp only [cells6, fix3, List.cons_append, List.nil_append] at N6
      clear Fa2 Na2
      obtain ⟨an', ea, ea1, ea2, er2⟩ := res2 (fo := true) ok (spread_take (d := D.nh + 2) (by omega)) hj5 r2 han hq2 htu (by rw [if_neg (by simp)]; exact rr2)
      walk_at "bf d2"
      exact k bs1' bs2' an' _ (res1 (fo := true) ok (spread_take (d := D.nh + 2) (by omega)) hj5 r1 hsp (by rw [if_neg (by simp)]; exact rr1)) ea ea1 ea2 er2 ⟨G6, nsp, isp, ntu, itu, itr, hj, nd, fx, nro⟩ (fun a ha o ho => A2.mod _ _ (fun z => G5.ap _ (foot2 (own_sub a z)) ha) (Ma2 _ _ (fun z => nomatch z) (A1.mod _ _ (fun z => G.ap _ (foot1 (own_sub a z)) ha) (Ma1 _ _ (fun z => nomatch z) ho))))
    | false =>
      walk_at "bf d1"
      refine meth_addalt (h₀ := c) G.on G.f1 ?_
      (try dsimp only [altAt])
      have fn1 := Bf.FnAt.on (f := f) ff G.on
      walk_at "bf d1"
      refine wpAny_call ?_
      rw [show ((D.nh : Int) + 2) = ((D.nh + 2 : Nat) : Int) from rfl]
      refine HFs j (D.nh + 2) _ hj5 (by omega) _ _ _ _ G.on (hr.down 139).deeper ?_
      intro al1 ha1 tka1 Ma1 na1 Ia1
      (try dsimp only at Ma1 na1)
      have Ga1 := G.call0 (tk' := 0) Ma1
      have Fa1 := fr_mod0 F Ma1
      have Na1 := news_mod0 N Ma1
      obtain ⟨nx1, ny1, nz1⟩ := G.live na1
      clear F N
      walk_at "bf d1"
      refine wpAny_call ?_
      refine addalt_exp_false (q := q) (h₀ := c) (hs := spreadOf PN j (D.nh + 2)) (Ga1.on) (hr.down 109).deeper ok Ga1.f1 Ia1 (by simp [spreadOf]) (fun z => nz1 (.tail _ (List.mem_append_left _ (.tail _ (.tail _ (.tail _ z)))))) (fun z => nz1 (.tail _ (List.mem_append_left _ (z ▸ .tail _ (.tail _ (.head _)))))) Ga1.tab hb1 ?_
      intro bs1 bs1' s1 A1 T1 Fi1 O1 _ rr1
      have G5 := (Ga1.call0 (Mod.refl [] _)).call1 (W := 418 :: e1 :: L1 :: feet b1) A1 (fun a ha => own_sub a ha) T1 Fi1 O1
      have F5 := G5.fr
      unfold lawMap at F5
      have N5 := G5.news _ fx
      simp only [cells6, fix3, List.cons_append, List.nil_append] at N5
      clear Fa1 Na1
      walk_at "bf d1"
      refine meth_addalt (h₀ := c) G5.on G5.f2 ?_
      (try dsimp only [altAt])
      have fn2 := Bf.FnAt.on (f := f) ff G5.on
      walk_at "bf d1"
      refine wpAny_call ?_
      rw [show ((D.nh : Int) + 2) = ((D.nh + 2 : Nat) : Int) from rfl]
      refine HFs j (D.nh + 2) _ hj5 (by omega) _ _ _ _ G5.on (hr.down 139).deeper ?_
      intro al2 ha2 tka2 Ma2 na2 Ia2
      (try dsimp only at Ma2 na2)
      have Ga2 := G5.call0 (tk' := 0) Ma2
      have Fa2 := fr_mod0 F5 Ma2
      have Na2 := news_mod0 N5 Ma2
      obtain ⟨nx2, ny2, nz2⟩ := G5.live na2
      clear F5 N5
      walk_at "bf d1"
      refine wpAny_call ?_
      refine addalt_rot_false (q := q) (h₀ := c) (hs := spreadOf PN j (D.nh + 2)) (Ga2.on) (hr.down 109).deeper ok Ga2.f2 Ia2 (by simp [spreadOf]) (fun z => nz2 (.tail _ (List.mem_append_right _ (.tail _ (.tail _ (.tail _ z)))))) (fun z => nz2 (.tail _ (List.mem_append_right _ (z ▸ .tail _ (.tail _ (.head _)))))) Ga2.tab hb2 ?_
      intro bs2 bs2' s2 A2 T2 Fi2 O2 _ rr2
      have G6 := (Ga2.call0 (Mod.refl [] _)).call2 (W := 418 :: e2 :: L2 :: feet b2) A2 (fun a ha => own_sub a ha) T2 Fi2 O2
      have F6 := G6.fr
      unfold lawMap at F6
      have N6 := G6.news _ fx
      simp only [cells6, fix3, List.cons_append, List.nil_append] at N6
      clear Fa2 Na2
      obtain ⟨an', ea, ea1, ea2, er2⟩ := res2 (fo := false) ok (spread_take (d := D.nh + 2) (by omega)) hj5 r2 han hq2 htu (by simpa using rr2)
      walk_at "bf d2"
      exact k bs1' bs2' an' _ (res1 (fo := false) ok (spread_take (d := D.nh + 2) (by omega)) hj5 r1 hsp (by simpa using rr1)) ea ea1 ea2 er2 ⟨G6, nsp, isp, ntu, itu, itr, hj, nd, fx, nro⟩ (fun a ha o ho => A2.mod _ _ (fun z => G5.ap _ (foot2 (own_sub a z)) ha) (Ma2 _ _ (fun z => nomatch z) (A1.mod _ _ (fun z => G.ap _ (foot1 (own_sub a z)) ha) (Ma1 _ _ (fun z => nomatch z) ho))))
  · cases fo with
    | true =>
      walk_at "bf d1"
      refine meth_add (h₀ := c) G.on G.f1 ?_
      walk_at "bf d1"
      refine wpAny_call ?_
      refine add_fil_t (h₀ := c) (hs := spreadOf PN j D.nh) G.on (hr.down 99).deeper ok G.f1 hf ff (HFs j D.nh _ hj5 (by omega)) (by simp [spreadOf]) G.tab hb1 ?_
      intro bs1 bs1' s1 A1 T1 Fi1 O1 gr1 pl1
      have rr1 := And.intro gr1 pl1
      have G5 := (G.call0 (Mod.refl [] _)).call1 (W := 418 :: e1 :: L1 :: feet b1) A1 (fun a ha => own_sub a ha) T1 Fi1 O1
      have F5 := G5.fr
      unfold lawMap at F5
      have N5 := G5.news _ fx
      simp only [cells6, fix3, List.cons_append, List.nil_append] at N5
      clear F N
      walk_at "bf d1"
      refine meth_add (h₀ := c) G5.on G5.f2 ?_
      walk_at "bf d1"
      refine wpAny_call ?_
      refine add_fil_t (h₀ := c) (hs := spreadOf PN j D.nh) G5.on (hr.down 99).deeper ok G5.f2 hf ff (HFs j D.nh _ hj5 (by omega)) (by simp [spreadOf]) G5.tab hb2 ?_
      intro bs2 bs2' s2 A2 T2 Fi2 O2 gr2 pl2
      have rr2 := And.intro gr2 pl2
      have G6 := (G5.call0 (Mod.refl [] _)).call2 (W := 418 :: e2 :: L2 :: feet b2) A2 (fun a ha => own_sub a ha) T2 Fi2 O2
      have F6 := G6.fr
      unfold lawMap at F6
      have N6 := G6.news _ fx
      simp only [cells6, fix3, List.cons_append, List.nil_append] at N6
      clear F5 N5
      obtain ⟨an', ea, ea1, ea2, er2⟩ := res2 (fo := true) ok (spread_take (d := D.nh) (by omega)) hj5 r2 han hq2 htu (by rw [if_neg (by simp)]; exact rr2)
      walk_at "bf d2"
      exact k bs1' bs2' an' _ (res1 (fo := true) ok (spread_take (d := D.nh) (by omega)) hj5 r1 hsp (by rw [if_neg (by simp)]; exact rr1)) ea ea1 ea2 er2 ⟨G6, nsp, isp, ntu, itu, itr, hj, nd, fx, nro⟩ (fun a ha o ho => A2.mod _ _ (fun z => G5.ap _ (foot2 (own_sub a z)) ha) ((A1.mod _ _ (fun z => G.ap _ (foot1 (own_sub a z)) ha) (ho))))
    | false =>
      walk_at "bf d1"
      refine meth_add (h₀ := c) G.on G.f1 ?_
      walk_at "bf d1"
      refine wpAny_call ?_
      refine add_fil_f (h₀ := c) (hs := spreadOf PN j D.nh) G.on (hr.down 99).deeper ok G.f1 hf ff (HFs j D.nh _ hj5 (by omega)) (by simp [spreadOf]) G.tab hb1 ?_
      intro bs1 bs1' s1 A1 T1 Fi1 O1 rr1
      have G5 := (G.call0 (Mod.refl [] _)).call1 (W := 418 :: e1 :: L1 :: feet b1) A1 (fun a ha => own_sub a ha) T1 Fi1 O1
      have F5 := G5.fr
      unfold lawMap at F5
      have N5 := G5.news _ fx
      simp only [cells6, fix3, List.cons_append, List.nil_append] at N5
      clear F N
      walk_at "bf d1"
      refine meth_add (h₀ := c) G5.on G5.f2 ?_
      walk_at "bf d1"
      refine wpAny_call ?_
      refine add_fil_f (h₀ := c) (hs := spreadOf PN j D.nh) G5.on (hr.down 99).deeper ok G5.f2 hf ff (HFs j D.nh _ hj5 (by omega)) (by simp [spreadOf]) G5.tab hb2 ?_
      intro bs2 bs2' s2 A2 T2 Fi2 O2 rr2
      have G6 := (G5.call0 (Mod.refl [] _)).call2 (W := 418 :: e2 :: L2 :: feet b2) A2 (fun a ha => own_sub a ha) T2 Fi2 O2
      have F6 := G6.fr
      unfold lawMap at F6
      have N6 := G6.news _ fx
      simp only [cells6, fix3, List.cons_append, List.nil_append] at N6
      clear F5 N5
      obtain ⟨an', ea, ea1, ea2, er2⟩ := res2 (fo := false) ok (spread_take (d := D.nh) (by omega)) hj5 r2 han hq2 htu (by simpa using rr2)
      walk_at "bf d2"
      exact k bs1' bs2' an' _ (res1 (fo := false) ok (spread_take (d := D.nh) (by omega)) hj5 r1 hsp (by simpa using rr1)) ea ea1 ea2 er2 ⟨G6, nsp, isp, ntu, itu, itr, hj, nd, fx, nro⟩ (fun a ha o ho => A2.mod _ _ (fun z => G5.ap _ (foot2 (own_sub a z)) ha) ((A1.mod _ _ (fun z => G.ap _ (foot1 (own_sub a z)) ha) (ho))))
end
section
local macro_rules | `(tactic| walk_at "bf none") => `(tactic| skip)
local macro_rules | `(tactic| walk_at "bf ne") => `(tactic| (refine neN ?_; (try dsimp only); first | assumption | exact Ne.symm (by assumption) | omega))
local macro_rules | `(tactic| walk_at "bf all") => `(tactic| first | exact List.forall_mem_nil _ | (refine' List.forall_mem_cons.mpr ⟨?a, ?b⟩; (case a => walk_at "bf ne"); (case b => walk_at "bf all")) | k_all)
local macro_rules | `(tactic| walk_at "bf upd") => `(tactic| first | (refine' Upd.head ?a; (case a => walk_at "bf all")) | (refine' Upd.tail ?a ?b; (case a => walk_at "bf ne"); (case b => walk_at "bf upd")))
local macro_rules | `(tactic| walk_at "bf sub") => `(tactic| (repeat (first | exact List.Sublist.refl _ | exact List.nil_sublist _ | refine List.Sublist.cons₂ _ ?_ | refine List.Sublist.cons _ ?_)))
local macro_rules | `(tactic| walk_at "bf t1") => `(tactic| repeat' (first | ((fail_if_success (with_reducible show wpAny _ _ (setItem (Value.ref _) _ _) _ _ _)); (first | (k_unfold; (try dsimp only)) | (walk1 <;> (try dsimp only)))) | fail "no step"))
theorem ki_setL_of {v : Value} : ∀ {l : List Value} {k : Nat}, k < l.length → ki_setL l k v = some (l.set k v)
  | [], _, h => by simp at h
  | _ :: _, 0, _ => rfl
  | _ :: l, k + 1, h => by
    simp only [ki_setL, ki_setL_of (l := l) (show k < l.length by simpa using h), List.set_cons_succ]
theorem ints_set {vs : List Value} {ns : List Int} (x : IntsAre vs ns) (k : Int) (t : Tok) : ∀ (i : Nat), IntsAre (vs.set i (.int k t)) (ns.set i k) := by
  induction x with
  | nil => intro i; exact .nil
  | cons n u h ih =>
    intro i
    cases i with
    | zero => exact .cons k t h
    | succ i => exact .cons n u (ih i)
theorem seg4 {s0 : Shared} {K : Cst} {x : Fx} {A : Around} {X : List Addr} {stb : List (Addr × Obj)} {t1 t2 : Int} {b1 b2 : List BH} {v : Vars} {al pu : Int} {ta tp : Tok} {spI : List (List Int)} {spL : List Int} {tuI : List (List Int)} {tuL tried : List Int}
    {spl tul : Addr} {svs tvs lvs uvs trv : List Value} {k1 k2 k3 k4 k5 : Nat} {oj : Obj} {s : Shared} {Q : Flow → Shared → Prop} {j : Nat} {tj : Tok}
    (LA : LawAt K x A) (hj5 : j < 5) (h5 : tried.length = 5)
    {st0 st1 : List Stmt} (hst0 : st0 = (ifThen (forBody 10 (bodyAt (hd1.heap_39 K.w.params) 557)) 2).drop 3) (hst1 : st1 = [])
    (S : StA s0 K x X stb t1 t2 b1 b2 v al ta pu tp spI spL tuI tuL tried (some (.int (j : Nat) tj)) spl tul svs tvs lvs uvs trv k1 k2 k3 k4 k5 oj s)
    (k : ∀ v' trv' k5' tp' s', v'.t = v.t → v'.x = v.x → v'.key = v.key → v'.row = v.row → v'.begun = v.begun → StA s0 K x X stb t1 t2 b1 b2 v' al ta (pu + 1) tp' spI spL tuI tuL (tried.set j 1) (some (.int (j : Nat) tj)) spl tul svs tvs lvs uvs trv' k1 k2 k3 k4 k5' oj s' →
      (∀ a ∈ X, a ∉ K.L :: (cells6 x spl tul svs tvs lvs uvs trv k1 k2 k3 k4 k5 oj).map (·.1) → ∀ o, s.heap.get? a = some o → s'.heap.get? a = some o) → Q .next s') :
    wpAny (model PySem.Challenge.rw_sv0019_01.row.prog K.w) (A.deeper (lawEnv K.w K.L)) (execs st0 (lawEnv K.w K.L)) Q (fun _ _ => False) s := by
  subst hst0
  subst hst1
  revert k
  obtain ⟨w, g, c, L, D, q, e1, de1, L1, e2, de2, L2⟩ := K
  obtain ⟨PN, f, sp, tu, tr, cj, cd, cs, lr, l0, od, os, rts, rk, rows, tn, tm, te, td⟩ := x
  obtain ⟨hr, hfr, XK, ⟨p₁, loose, mean, mg, mb, T⟩, ok, hf, ff, HFs, ⟨sm1, sm2, sm3⟩, hq, hrows, hod, hos, ⟨ad1, ad2, ad3⟩⟩ := LA
  obtain ⟨vt, vx, vkind, vkey, vrow, vforced, vbegun, vpopped, vheaps, vsaid⟩ := v
  dsimp only at *
  subst ad1 ad2 ad3
  obtain ⟨hd0, dp0, fr0, gd0, un0⟩ := A
  obtain rfl : hd0 = none := hr.hd
  refine' with_lookup (K := hd1.heap_39 w.params) (f := 557) ?ho ?_
  case ho => k_is
  intro hB hS
  unfold lawEnv
  rw [hB, hS]
  dsimp only [forBody, ifThen, ifElse, List.getElem?_cons_succ, List.getElem?_cons_zero, List.drop_succ_cons, List.drop_zero]
  intro k
  clear hB hS
  obtain ⟨G, nsp, isp, ntu, itu, itr, hj, nd, fx, nro⟩ := S
  have F := G.fr
  unfold lawMap at F
  obtain ⟨⟨a1, a2, a3, a4, a5⟩, ⟨a6, a7, a8, a9⟩, ⟨a10, a11, a12⟩, ⟨a13, a14⟩, a15⟩ := nodup6 nd
  obtain ⟨⟨c1, c2, c3, c4, c5⟩, ⟨c6, c7, c8, c9, c10⟩, ⟨c11, c12, c13, c14, c15, c16⟩⟩ := apart93 G fx
  dsimp only at a1 a2 a3 a4 a5 a6 a7 a8 a9 a10 a11 a12 a13 a14 a15 c1 c2 c3 c4 c5 c6 c7 c8 c9 c10 c11 c12 c13 c14 c15 c16
  have N0 := G.news _ fx
  obtain ⟨own, N, hoff, rb, rn⟩ := rebase2 G.fr N0
  simp only [cells6, fix3] at hoff
  simp only [cells6, fix3, List.cons_append, List.nil_append] at N
  have hl5 : trv.length = 5 := by rw [itr.length]; exact h5
  walk_at "bf t1"
  have hj0 : j < trv.length := by rw [hl5]; exact hj5
  refine' ki_set (its := trv.toArray) F N (by clear a1 a2 a3 a4 a5 a6 a7 a8 a9 a10 a11 a12 a13 a14 a15 c1 c2 c3 c4 c5 c6 c7 c8 c9 c10 c11 c12 c13 c14 c15 c16; omega) (by clear a1 a2 a3 a4 a5 a6 a7 a8 a9 a10 a11 a12 a13 a14 a15 c1 c2 c3 c4 c5 c6 c7 c8 c9 c10 c11 c12 c13 c14 c15 c16; omega) (ki_setL_of (by show j < trv.length; exact hj0)) ?U ?_
  case U => walk_at "bf upd"
  intro h2 F2 N2
  (try dsimp only [List.nil_append, List.cons_append] at N2)
  clear F N
  walk_at "bf t1"
  rename Fr _ _ _ _ => F3
  rename News _ _ _ _ => N3
  have M3 := rb _ _ F3 (news_sub N3 (by walk_at "bf sub"))
  have F4 := canonF (base := Fx.base ⟨PN, f, sp, tu, tr, L + 1 + 1 + 1 + 1, L + 1 + 1 + 1, L + 1, lr, l0, od, os, rts, rk, rows, tn, tm, te, td⟩ ⟨w, g, c, L, D, q, e1, de1, L1, e2, de2, L2⟩) F3 rfl rfl (fun y y1 y2 y3 y4 y5 y6 y7 y8 y9 y10 y11 y12 => by simp only [if_neg y1, if_neg y2, if_neg y3, if_neg y4, if_neg y5, if_neg y6, if_neg y7, if_neg y8, if_neg y9, if_neg y10, if_neg y11, if_neg y12])
  have G3 := fun tk0 => G.walk (tk' := tk0) (cells' := [(sp, listO (svs ++ [.ref spl]) k1), (spl, listO lvs k2), (tu, listO (tvs ++ [.ref tul]) k3), (tul, listO uvs k4), (tr, listO (trv.set j (.int 1 s.toks)) k5), (L + 1 + 1 + 1 + 1, oj)]) M3 F4 (news_sub N3 (by walk_at "bf sub")) rfl
  exact k _ _ _ _ _ rfl rfl rfl rfl rfl ⟨G3 _, nsp, isp, ntu, itu, ints_set itr _ _ _, hj, nd, fx, nro⟩ (fun a ha hn o ho => M3 a o hn ho)
end
section
local macro_rules | `(tactic| walk_at "bf none") => `(tactic| skip)
local macro_rules | `(tactic| walk_at "bf none") => `(tactic| skip)
local macro_rules | `(tactic| walk_at "bf none") => `(tactic| skip)
local macro_rules | `(tactic| walk_at "bf none") => `(tactic| skip)
local macro_rules | `(tactic| walk_at "bf none") => `(tactic| skip)
local macro_rules | `(tactic| walk_at "bf sub") => `(tactic| (repeat (first | exact List.Sublist.refl _ | exact List.nil_sublist _ | refine List.Sublist.cons₂ _ ?_ | refine List.Sublist.cons _ ?_)))
local macro_rules | `(tactic| walk_at "bf p1") => `(tactic| repeat' (first | ((fail_if_success (with_reducible show wpAny _ _ (getMethod (Value.ref _) (Str.ofString "push") _) _ _ _)); (fail_if_success (with_reducible show wpAny _ _ (call (Value.ref _) _) _ _ _)); (fail_if_success (with_reducible show wpAny _ _ (newList _) _ _ _)); (fail_if_success (with_reducible show wpAny _ _ (call (Value.builtin "list.append") _) _ _ _)); (first | (k_unfold; (try dsimp only)) | (walk1 <;> (try dsimp only)))) | fail "no step"))
theorem push1 {s0 : Shared} {K : Cst} {x : Fx} {A : Around} {Xs X : List Addr} {stb : List (Addr × Obj)} {t1 t2 : Int} {b1 b2 : List BH} {v : Vars} {al pu : Int} {ta tp : Tok} {spI : List (List Int)} {spL : List Int} {tuI : List (List Int)} {tuL tried : List Int} {xj : Option Value}
    {spl tul : Addr} {svs tvs lvs uvs trv : List Value} {k1 k2 k3 k4 k5 : Nat} {oj : Obj} {s : Shared} {Q : Flow → Shared → Prop}
    (LA : LawAt K x A) (hXs : X = Xs ++ [K.L, x.sp, spl, x.tu, tul, x.tr, x.cj]) (hof : ∀ a ∈ Xs, a ∉ [K.L, x.sp, spl, x.tu, tul, x.tr, x.cj]) (P : Plain x spI spL tuI tuL) (hb : b1.length < 900)
    {st0 : List Stmt} (hst0 : st0 = ifThen (ifElse (forBody 10 (bodyAt (hd1.heap_39 K.w.params) 557)) 2) 0)
    (S : StA s0 K x X stb t1 t2 b1 b2 v al ta pu tp spI spL tuI tuL tried xj spl tul svs tvs lvs uvs trv k1 k2 k3 k4 k5 oj s)
    (k : ∀ b1' Dn s', Grow none K.D true s.heap b1 b1' → (∀ a ∈ Xs, a ≠ Dn) → StA s0 K x (Xs ++ [K.L, x.sp, Dn, x.tu, tul, x.tr, x.cj]) ((spl, listO lvs k2) :: stb) t1 t2 b1' b2 v al ta pu tp (spI ++ [spL]) [] tuI tuL tried xj Dn tul (svs ++ [.ref spl]) tvs [] uvs trv (k1 + 1) 0 k3 k4 k5 oj s' →
      (∀ a ∈ Xs, ∀ o, s.heap.get? a = some o → s'.heap.get? a = some o) → Q .next s') :
    wpAny (model PySem.Challenge.rw_sv0019_01.row.prog K.w) (A.deeper (lawEnv K.w K.L)) (execs st0 (lawEnv K.w K.L)) Q (fun _ _ => False) s := by
  subst hst0
  revert k
  obtain ⟨w, g, c, L, D, q, e1, de1, L1, e2, de2, L2⟩ := K
  obtain ⟨PN, f, sp, tu, tr, cj, cd, cs, lr, l0, od, os, rts, rk, rows, tn, tm, te, td⟩ := x
  obtain ⟨hr, hfr, XK, ⟨p₁, loose, mean, mg, mb, T⟩, ok, hf, ff, HFs, ⟨sm1, sm2, sm3⟩, hq, hrows, hod, hos, ⟨ad1, ad2, ad3⟩⟩ := LA
  obtain ⟨vt, vx, vkind, vkey, vrow, vforced, vbegun, vpopped, vheaps, vsaid⟩ := v
  dsimp only at *
  subst ad1 ad2 ad3
  obtain ⟨hd0, dp0, fr0, gd0, un0⟩ := A
  obtain rfl : hd0 = none := hr.hd
  refine' with_lookup (K := hd1.heap_39 w.params) (f := 557) ?ho ?_
  case ho => k_is
  intro hB hS
  unfold lawEnv
  rw [hB, hS]
  dsimp only [forBody, ifThen, ifElse, List.getElem?_cons_succ, List.getElem?_cons_zero, List.drop_succ_cons, List.drop_zero]
  intro k
  clear hB hS
  obtain ⟨G, nsp, isp, ntu, itu, itr, hj, nd, fx, nro⟩ := S
  obtain ⟨⟨a1, a2, a3, a4, a5⟩, ⟨a6, a7, a8, a9⟩, ⟨a10, a11, a12⟩, ⟨a13, a14⟩, a15⟩ := nodup6 nd
  obtain ⟨⟨c1, c2, c3, c4, c5⟩, ⟨c6, c7, c8, c9, c10⟩, ⟨c11, c12, c13, c14, c15, c16⟩⟩ := apart93 G fx
  dsimp only at a1 a2 a3 a4 a5 a6 a7 a8 a9 a10 a11 a12 a13 a14 a15 c1 c2 c3 c4 c5 c6 c7 c8 c9 c10 c11 c12 c13 c14 c15 c16
  have lz : svs.length < 20 := by rw [nsp.len]; exact P.z1
  have lz2 : tvs.length < 20 := by rw [ntu.len]; exact P.z3
  have F := G.fr
  unfold lawMap at F
  have N := G.news _ fx
  simp only [cells6, fix3, List.cons_append, List.nil_append] at N
  walk_at "bf p1"
  refine meth_push (h₀ := c) G.on G.f1 ?_
  (try dsimp only [pushAt])
  walk_at "bf p1"
  refine wpAny_call ?_
  refine push_fil (r := none) (h₀ := c) G.on (hr.down 109).deeper ok G.f1 hb ?_
  intro bs' h1 tk1 M1 Fi O1 gr
  (try dsimp only at M1 O1 gr)
  have G5 := (G.call0 (Mod.refl [] _)).call1 (W := [L1]) (Aft.plain (tk := tk1) M1) (fun a ha => by rw [List.mem_singleton.mp ha]; exact .tail _ (.tail _ (.tail _ (.head _)))) (G.tab.mod M1 fun z => G.f1.tabOff G.tab (List.mem_singleton.mp z ▸ .tail _ (.tail _ (.head _)))) Fi O1
  have F5 := G5.fr
  unfold lawMap at F5
  have N5 := G5.news _ fx
  simp only [cells6, fix3, List.cons_append, List.nil_append] at N5
  (try dsimp only at G5)
  clear F N
  walk_at "bf p1"
  refine wpAny_newList ?_ (by simp)
  have nD : h1.get? h1.objs.size = none := Heap.get?_none_of_le (Nat.le_refl _)
  obtain ⟨h2, eh2⟩ : ∃ h2, h2 = h1.push { cls := .type "list", data := .seq ([] : List Value).toArray } := ⟨_, rfl⟩
  have up : ∀ b o, h1.get? b = some o → h2.get? b = some o := fun b o e => eh2 ▸ Heap.get?_push_of_some _ e
  have hD2 : h2.get? h1.objs.size = some (listO [] 0) := eh2 ▸ Heap.get?_push_size _ rfl
  have F6 := F5.keeps up
  have N6 := news_add (N5.grown up) hD2 (fr_new F5 nD)
  obtain ⟨Dn, eD⟩ : ∃ Dn, Dn = h1.objs.size := ⟨_, rfl⟩
  rw [← eD] at nD hD2 N6
  (try dsimp only)
  rw [← eh2, ← eD]
  clear F5 N5
  have offD : ∀ a, (∃ o, h1.get? a = some o) → a ≠ Dn := fun a ⟨o, e⟩ z => by rw [z, nD] at e; cases e
  walk_at "bf p1"
  refine append_at (N6 (sp, listO (svs ++ [.ref spl]) k1) (by k_mem)).1 (fun h3 hs ho => ?_) (by rw [sizeLine_eq, List.size_toArray]; simp; omega)
  walk_at "bf p1"
  have hsp := N6 (sp, listO (svs ++ [.ref spl]) k1) (by k_mem)
  have F7 := F6.change hs hsp.2.1 hsp.2.2
  have ho' : h3.get? sp = some (listO ((svs ++ [.ref spl]) ++ [.ref Dn]) (k1 + 1)) := by rw [ho]; simp [listO]
  have keep : ∀ b o, b ≠ sp → h1.get? b = some o → h3.get? b = some o := fun b o hb e => hs.extBut b o hb (up b o e)
  have cell := fun (a : Addr) (o : Obj) (hm : (a, o) ∈ cells6 ⟨PN, f, sp, tu, tr, L + 1 + 1 + 1 + 1, L + 1 + 1 + 1, L + 1, lr, l0, od, os, rts, rk, rows, tn, tm, te, td⟩ spl tul svs tvs lvs uvs trv k1 k2 k3 k4 k5 oj) => G5.nw (a, o) hm
  have q1 := cell sp (listO (svs ++ [.ref spl]) k1) (.head _)
  have q2 := cell spl (listO lvs k2) (.tail _ (.head _))
  have q3 := cell tu (listO (tvs ++ [.ref tul]) k3) (.tail _ (.tail _ (.head _)))
  have q4 := cell tul (listO uvs k4) (.tail _ (.tail _ (.tail _ (.head _))))
  have q5 := cell tr (listO trv k5) (.tail _ (.tail _ (.tail _ (.tail _ (.head _)))))
  have q6 := cell (L + 1 + 1 + 1 + 1) oj (.tail _ (.tail _ (.tail _ (.tail _ (.tail _ (.head _))))))
  obtain ⟨cD, xD, fD⟩ := G5.live nD
  have gD : g.get? Dn = none := G5.cg cD
  have d1 := offD sp ⟨_, q1.1⟩
  have d2 := offD spl ⟨_, q2.1⟩
  have d3 := offD tu ⟨_, q3.1⟩
  have d4 := offD tul ⟨_, q4.1⟩
  have d5 := offD tr ⟨_, q5.1⟩
  have d6 := offD _ ⟨_, q6.1⟩
  have LD : L ≠ Dn := offD L (by obtain ⟨o, _, _, e, _⟩ := G5.fr.ns; exact ⟨o, e⟩)
  have hD3 : h3.get? Dn = some (listO [] 0) := hs.extBut Dn _ (Ne.symm d1) hD2
  have XsX : ∀ a ∈ Xs, a ∈ X := fun a ha => hXs ▸ List.mem_append_left _ ha
  have tX : ∀ a ∈ [L, sp, spl, tu, tul, tr, L + 1 + 1 + 1 + 1], a ∈ X := fun a ha => hXs ▸ List.mem_append_right _ ha
  have r3 := keep tu _ (Ne.symm a2) q3.1
  have rl := keep spl _ (Ne.symm a1) q2.1
  have r5 := keep tr _ (Ne.symm a4) q5.1
  have r6 := keep _ _ (Ne.symm a5) q6.1
  have r4 := keep tul _ (Ne.symm a3) q4.1
  have p1 : ∃ o, h3.get? sp = some o := ⟨_, ho'⟩
  have p3 : ∃ o, h3.get? tu = some o := ⟨_, r3⟩
  have M3 : Mod X h1 h3 := fun b o hb e => keep b o (fun z => hb (z ▸ tX _ (.tail _ (.head _)))) e
  have pres : ∀ a ∈ Xs ++ [L, sp, Dn, tu, tul, tr, L + 1 + 1 + 1 + 1], (a ∈ X ∨ h1.get? a = none) ∧ ∃ o, h3.get? a = some o := fun a ha => by
    rcases List.mem_append.mp ha with ha | ha
    · refine ⟨.inl (XsX a ha), ?_⟩
      obtain ⟨o, e⟩ := (G5.x0 a (XsX a ha)).2
      exact ⟨o, keep a o (fun z => hof a ha (z ▸ (.tail _ (.head _)))) e⟩
    · simp only [List.mem_cons, List.not_mem_nil, or_false] at ha
      rcases ha with rfl | rfl | rfl | rfl | rfl | rfl | rfl
      · exact ⟨.inl (tX _ (.head _)), by obtain ⟨o, _, _, e, _⟩ := F7.ns; exact ⟨o, e⟩⟩
      · exact ⟨.inl (tX _ (.tail _ (.head _))), p1⟩
      · exact ⟨.inr nD, _, hD3⟩
      · exact ⟨.inl (tX _ (.tail _ (.tail _ (.tail _ (.head _))))), p3⟩
      · exact ⟨.inl (tX _ (.tail _ (.tail _ (.tail _ (.tail _ (.head _)))))), _, r4⟩
      · exact ⟨.inl (tX _ (.tail _ (.tail _ (.tail _ (.tail _ (.tail _ (.head _))))))), _, r5⟩
      · exact ⟨.inl (tX _ (.tail _ (.tail _ (.tail _ (.tail _ (.tail _ (.tail _ (.head _)))))))), _, r6⟩
  have N7 : News g L h3 [(sp, listO ((svs ++ [.ref spl]) ++ [.ref Dn]) (k1 + 1)), (Dn, listO [] 0), (tu, listO (tvs ++ [.ref tul]) k3), (tul, listO uvs k4), (tr, listO trv k5), (L + 1 + 1 + 1 + 1, oj)] := by
    intro p hp
    simp only [List.mem_cons, List.not_mem_nil, or_false] at hp
    rcases hp with rfl | rfl | rfl | rfl | rfl | rfl
    · exact ⟨ho', q1.2⟩
    · exact ⟨hD3, Ne.symm LD, gD⟩
    · exact ⟨r3, q3.2⟩
    · exact ⟨r4, q4.2⟩
    · exact ⟨r5, q5.2⟩
    · exact ⟨r6, q6.2⟩
  have notX : ∀ a, a ∉ X → a ≠ Dn → a ∉ Xs ++ [L, sp, Dn, tu, tul, tr, L + 1 + 1 + 1 + 1] := fun a h1 h2 z => by
    rcases (pres a z).1 with y | y
    · exact h1 y
    · rcases List.mem_append.mp z with z | z
      · exact h1 (XsX a z)
      · simp only [List.mem_cons, List.not_mem_nil, or_false] at z
        rcases z with rfl | rfl | rfl | rfl | rfl | rfl | rfl
        all_goals first | exact h2 rfl | (exact h1 (tX _ (by simp)))
  refine k bs' Dn _ gr (fun a ha z => xD (z ▸ XsX a ha)) ⟨G5.walkN (X' := Xs ++ [L, sp, Dn, tu, tul, tr, L + 1 + 1 + 1 + 1]) M3 F7 N7 pres (List.mem_append_right _ (.head _)) (fun p hp => ?_) (fun p hp => ?_), Nest.append (nsp.mono fun a o z => .tail _ z) (.cons (.head _) isp .nil), .nil, ntu.mono fun a o z => .tail _ z, itu, itr, hj, ?_, (fun p hp => .tail _ (fx p hp)), nro.mono fun a o z => .tail _ z⟩ (fun a ha o ho => ?_)
  · refine List.mem_append_right _ (.tail _ ?_)
    have : p.1 ∈ ([(sp, listO ((svs ++ [.ref spl]) ++ [.ref Dn]) (k1 + 1)), (Dn, listO [] 0), (tu, listO (tvs ++ [.ref tul]) k3), (tul, listO uvs k4), (tr, listO trv k5), (L + 1 + 1 + 1 + 1, oj)] : List (Addr × Obj)).map (·.1) := List.mem_map_of_mem hp
    exact this
  · rcases List.mem_cons.mp hp with rfl | hp
    · refine ⟨rl, q2.2.2, fun z => ?_, fun z => G5.ap _ z (tX _ (.tail _ (.tail _ (.head _))))⟩
      rcases List.mem_append.mp z with z | z
      · exact hof _ z (.tail _ (.tail _ (.head _)))
      · simp only [List.mem_cons, List.not_mem_nil, or_false] at z
        rcases z with z | z | z | z | z | z | z
        · exact q2.2.1 z
        · exact a1 z.symm
        · exact d2 z
        · exact a6 z
        · exact a7 z
        · exact a8 z
        · exact a9 z
    · obtain ⟨s1, s2, s3, s4⟩ := G5.sb p hp
      exact ⟨M3 _ _ s3 s1, s2, notX _ s3 (offD _ ⟨_, s1⟩), s4⟩
  · simp only [List.nodup_cons, List.mem_cons, List.not_mem_nil, or_false, not_or, List.nodup_nil, and_true, not_false_eq_true]
    exact ⟨⟨d1, a2, a3, a4, a5⟩, ⟨Ne.symm d3, Ne.symm d4, Ne.symm d5, Ne.symm d6⟩, ⟨a10, a11, a12⟩, ⟨a13, a14⟩, a15⟩
  · exact keep a o (fun z => hof a ha (z ▸ (.tail _ (.head _)))) (M1 a o (fun z => by
      rw [List.mem_singleton.mp z] at ha
      exact G.ap L1 (foot1 (.tail _ (.tail _ (.tail _ (.head _))))) (XsX _ ha)) ho)
theorem push2 {s0 : Shared} {K : Cst} {x : Fx} {A : Around} {Xs X : List Addr} {stb : List (Addr × Obj)} {t1 t2 : Int} {b1 b2 : List BH} {v : Vars} {al pu : Int} {ta tp : Tok} {spI : List (List Int)} {spL : List Int} {tuI : List (List Int)} {tuL tried : List Int} {xj : Option Value}
    {spl tul : Addr} {svs tvs lvs uvs trv : List Value} {k1 k2 k3 k4 k5 : Nat} {oj : Obj} {s : Shared} {Q : Flow → Shared → Prop}
    (LA : LawAt K x A) (hXs : X = Xs ++ [K.L, x.sp, spl, x.tu, tul, x.tr, x.cj]) (hof : ∀ a ∈ Xs, a ∉ [K.L, x.sp, spl, x.tu, tul, x.tr, x.cj]) (P : Plain x spI spL tuI tuL) (hb : b2.length < 900)
    {st0 : List Stmt} (hst0 : st0 = ifThen (ifElse (ifElse (forBody 10 (bodyAt (hd1.heap_39 K.w.params) 557)) 2) 0) 0)
    (S : StA s0 K x X stb t1 t2 b1 b2 v al ta pu tp spI spL tuI tuL tried xj spl tul svs tvs lvs uvs trv k1 k2 k3 k4 k5 oj s)
    (k : ∀ b2' Dn s', Grow (some K.q) K.D true s.heap b2 b2' → (∀ a ∈ Xs, a ≠ Dn) → StA s0 K x (Xs ++ [K.L, x.sp, spl, x.tu, Dn, x.tr, x.cj]) ((tul, listO uvs k4) :: stb) t1 t2 b1 b2' v al ta pu tp spI spL (tuI ++ [tuL]) [] tried xj spl Dn svs (tvs ++ [.ref tul]) lvs [] trv k1 k2 (k3 + 1) 0 k5 oj s' →
      (∀ a ∈ Xs, ∀ o, s.heap.get? a = some o → s'.heap.get? a = some o) → Q .next s') :
    wpAny (model PySem.Challenge.rw_sv0019_01.row.prog K.w) (A.deeper (lawEnv K.w K.L)) (execs st0 (lawEnv K.w K.L)) Q (fun _ _ => False) s := by
  subst hst0
  revert k
  obtain ⟨w, g, c, L, D, q, e1, de1, L1, e2, de2, L2⟩ := K
  obtain ⟨PN, f, sp, tu, tr, cj, cd, cs, lr, l0, od, os, rts, rk, rows, tn, tm, te, td⟩ := x
  obtain ⟨hr, hfr, XK, ⟨p₁, loose, mean, mg, mb, T⟩, ok, hf, ff, HFs, ⟨sm1, sm2, sm3⟩, hq, hrows, hod, hos, ⟨ad1, ad2, ad3⟩⟩ := LA
  obtain ⟨vt, vx, vkind, vkey, vrow, vforced, vbegun, vpopped, vheaps, vsaid⟩ := v
  dsimp only at *
  subst ad1 ad2 ad3
  obtain ⟨hd0, dp0, fr0, gd0, un0⟩ := A
  obtain rfl : hd0 = none := hr.hd
  refine' with_lookup (K := hd1.heap_39 w.params) (f := 557) ?ho ?_
  case ho => k_is
  intro hB hS
  unfold lawEnv
  rw [hB, hS]
  dsimp only [forBody, ifThen, ifElse, List.getElem?_cons_succ, List.getElem?_cons_zero, List.drop_succ_cons, List.drop_zero]
  intro k
  clear hB hS
  obtain ⟨G, nsp, isp, ntu, itu, itr, hj, nd, fx, nro⟩ := S
  obtain ⟨⟨a1, a2, a3, a4, a5⟩, ⟨a6, a7, a8, a9⟩, ⟨a10, a11, a12⟩, ⟨a13, a14⟩, a15⟩ := nodup6 nd
  obtain ⟨⟨c1, c2, c3, c4, c5⟩, ⟨c6, c7, c8, c9, c10⟩, ⟨c11, c12, c13, c14, c15, c16⟩⟩ := apart93 G fx
  dsimp only at a1 a2 a3 a4 a5 a6 a7 a8 a9 a10 a11 a12 a13 a14 a15 c1 c2 c3 c4 c5 c6 c7 c8 c9 c10 c11 c12 c13 c14 c15 c16
  have lz : svs.length < 20 := by rw [nsp.len]; exact P.z1
  have lz2 : tvs.length < 20 := by rw [ntu.len]; exact P.z3
  have F := G.fr
  unfold lawMap at F
  have N := G.news _ fx
  simp only [cells6, fix3, List.cons_append, List.nil_append] at N
  walk_at "bf p1"
  refine meth_push (h₀ := c) G.on G.f2 ?_
  (try dsimp only [pushAt])
  walk_at "bf p1"
  refine wpAny_call ?_
  refine push_fil (r := some q) (h₀ := c) G.on (hr.down 109).deeper ok G.f2 hb ?_
  intro bs' h1 tk1 M1 Fi O1 gr
  (try dsimp only at M1 O1 gr)
  have G5 := (G.call0 (Mod.refl [] _)).call2 (W := [L2]) (Aft.plain (tk := tk1) M1) (fun a ha => by rw [List.mem_singleton.mp ha]; exact .tail _ (.tail _ (.tail _ (.head _)))) (G.tab.mod M1 fun z => G.f2.tabOff G.tab (List.mem_singleton.mp z ▸ .tail _ (.tail _ (.head _)))) Fi O1
  have F5 := G5.fr
  unfold lawMap at F5
  have N5 := G5.news _ fx
  simp only [cells6, fix3, List.cons_append, List.nil_append] at N5
  (try dsimp only at G5)
  clear F N
  walk_at "bf p1"
  refine wpAny_newList ?_ (by simp)
  have nD : h1.get? h1.objs.size = none := Heap.get?_none_of_le (Nat.le_refl _)
  obtain ⟨h2, eh2⟩ : ∃ h2, h2 = h1.push { cls := .type "list", data := .seq ([] : List Value).toArray } := ⟨_, rfl⟩
  have up : ∀ b o, h1.get? b = some o → h2.get? b = some o := fun b o e => eh2 ▸ Heap.get?_push_of_some _ e
  have hD2 : h2.get? h1.objs.size = some (listO [] 0) := eh2 ▸ Heap.get?_push_size _ rfl
  have F6 := F5.keeps up
  have N6 := news_add (N5.grown up) hD2 (fr_new F5 nD)
  obtain ⟨Dn, eD⟩ : ∃ Dn, Dn = h1.objs.size := ⟨_, rfl⟩
  rw [← eD] at nD hD2 N6
  (try dsimp only)
  rw [← eh2, ← eD]
  clear F5 N5
  have offD : ∀ a, (∃ o, h1.get? a = some o) → a ≠ Dn := fun a ⟨o, e⟩ z => by rw [z, nD] at e; cases e
  walk_at "bf p1"
  refine append_at (N6 (tu, listO (tvs ++ [.ref tul]) k3) (by k_mem)).1 (fun h3 hs ho => ?_) (by rw [sizeLine_eq, List.size_toArray]; simp; omega)
  walk_at "bf p1"
  have hsp := N6 (tu, listO (tvs ++ [.ref tul]) k3) (by k_mem)
  have F7 := F6.change hs hsp.2.1 hsp.2.2
  have ho' : h3.get? tu = some (listO ((tvs ++ [.ref tul]) ++ [.ref Dn]) (k3 + 1)) := by rw [ho]; simp [listO]
  have keep : ∀ b o, b ≠ tu → h1.get? b = some o → h3.get? b = some o := fun b o hb e => hs.extBut b o hb (up b o e)
  have cell := fun (a : Addr) (o : Obj) (hm : (a, o) ∈ cells6 ⟨PN, f, sp, tu, tr, L + 1 + 1 + 1 + 1, L + 1 + 1 + 1, L + 1, lr, l0, od, os, rts, rk, rows, tn, tm, te, td⟩ spl tul svs tvs lvs uvs trv k1 k2 k3 k4 k5 oj) => G5.nw (a, o) hm
  have q1 := cell sp (listO (svs ++ [.ref spl]) k1) (.head _)
  have q2 := cell spl (listO lvs k2) (.tail _ (.head _))
  have q3 := cell tu (listO (tvs ++ [.ref tul]) k3) (.tail _ (.tail _ (.head _)))
  have q4 := cell tul (listO uvs k4) (.tail _ (.tail _ (.tail _ (.head _))))
  have q5 := cell tr (listO trv k5) (.tail _ (.tail _ (.tail _ (.tail _ (.head _)))))
  have q6 := cell (L + 1 + 1 + 1 + 1) oj (.tail _ (.tail _ (.tail _ (.tail _ (.tail _ (.head _))))))
  obtain ⟨cD, xD, fD⟩ := G5.live nD
  have gD : g.get? Dn = none := G5.cg cD
  have d1 := offD sp ⟨_, q1.1⟩
  have d2 := offD spl ⟨_, q2.1⟩
  have d3 := offD tu ⟨_, q3.1⟩
  have d4 := offD tul ⟨_, q4.1⟩
  have d5 := offD tr ⟨_, q5.1⟩
  have d6 := offD _ ⟨_, q6.1⟩
  have LD : L ≠ Dn := offD L (by obtain ⟨o, _, _, e, _⟩ := G5.fr.ns; exact ⟨o, e⟩)
  have hD3 : h3.get? Dn = some (listO [] 0) := hs.extBut Dn _ (Ne.symm d3) hD2
  have XsX : ∀ a ∈ Xs, a ∈ X := fun a ha => hXs ▸ List.mem_append_left _ ha
  have tX : ∀ a ∈ [L, sp, spl, tu, tul, tr, L + 1 + 1 + 1 + 1], a ∈ X := fun a ha => hXs ▸ List.mem_append_right _ ha
  have r1 := keep sp _ a2 q1.1
  have rl := keep tul _ (Ne.symm a10) q4.1
  have r5 := keep tr _ (Ne.symm a11) q5.1
  have r6 := keep _ _ (Ne.symm a12) q6.1
  have r2 := keep spl _ a6 q2.1
  have p1 : ∃ o, h3.get? sp = some o := ⟨_, r1⟩
  have p3 : ∃ o, h3.get? tu = some o := ⟨_, ho'⟩
  have M3 : Mod X h1 h3 := fun b o hb e => keep b o (fun z => hb (z ▸ tX _ (.tail _ (.tail _ (.tail _ (.head _)))))) e
  have pres : ∀ a ∈ Xs ++ [L, sp, spl, tu, Dn, tr, L + 1 + 1 + 1 + 1], (a ∈ X ∨ h1.get? a = none) ∧ ∃ o, h3.get? a = some o := fun a ha => by
    rcases List.mem_append.mp ha with ha | ha
    · refine ⟨.inl (XsX a ha), ?_⟩
      obtain ⟨o, e⟩ := (G5.x0 a (XsX a ha)).2
      exact ⟨o, keep a o (fun z => hof a ha (z ▸ (.tail _ (.tail _ (.tail _ (.head _)))))) e⟩
    · simp only [List.mem_cons, List.not_mem_nil, or_false] at ha
      rcases ha with rfl | rfl | rfl | rfl | rfl | rfl | rfl
      · exact ⟨.inl (tX _ (.head _)), by obtain ⟨o, _, _, e, _⟩ := F7.ns; exact ⟨o, e⟩⟩
      · exact ⟨.inl (tX _ (.tail _ (.head _))), p1⟩
      · exact ⟨.inl (tX _ (.tail _ (.tail _ (.head _)))), _, r2⟩
      · exact ⟨.inl (tX _ (.tail _ (.tail _ (.tail _ (.head _))))), p3⟩
      · exact ⟨.inr nD, _, hD3⟩
      · exact ⟨.inl (tX _ (.tail _ (.tail _ (.tail _ (.tail _ (.tail _ (.head _))))))), _, r5⟩
      · exact ⟨.inl (tX _ (.tail _ (.tail _ (.tail _ (.tail _ (.tail _ (.tail _ (.head _)))))))), _, r6⟩
  have N7 : News g L h3 [(sp, listO (svs ++ [.ref spl]) k1), (spl, listO lvs k2), (tu, listO ((tvs ++ [.ref tul]) ++ [.ref Dn]) (k3 + 1)), (Dn, listO [] 0), (tr, listO trv k5), (L + 1 + 1 + 1 + 1, oj)] := by
    intro p hp
    simp only [List.mem_cons, List.not_mem_nil, or_false] at hp
    rcases hp with rfl | rfl | rfl | rfl | rfl | rfl
    · exact ⟨r1, q1.2⟩
    · exact ⟨r2, q2.2⟩
    · exact ⟨ho', q3.2⟩
    · exact ⟨hD3, Ne.symm LD, gD⟩
    · exact ⟨r5, q5.2⟩
    · exact ⟨r6, q6.2⟩
  have notX : ∀ a, a ∉ X → a ≠ Dn → a ∉ Xs ++ [L, sp, spl, tu, Dn, tr, L + 1 + 1 + 1 + 1] := fun a h1 h2 z => by
    rcases (pres a z).1 with y | y
    · exact h1 y
    · rcases List.mem_append.mp z with z | z
      · exact h1 (XsX a z)
      · simp only [List.mem_cons, List.not_mem_nil, or_false] at z
        rcases z with rfl | rfl | rfl | rfl | rfl | rfl | rfl
        all_goals first | exact h2 rfl | (exact h1 (tX _ (by simp)))
  refine k bs' Dn _ gr (fun a ha z => xD (z ▸ XsX a ha)) ⟨G5.walkN (X' := Xs ++ [L, sp, spl, tu, Dn, tr, L + 1 + 1 + 1 + 1]) M3 F7 N7 pres (List.mem_append_right _ (.head _)) (fun p hp => ?_) (fun p hp => ?_), nsp.mono fun a o z => .tail _ z, isp, Nest.append (ntu.mono fun a o z => .tail _ z) (.cons (.head _) itu .nil), .nil, itr, hj, ?_, (fun p hp => .tail _ (fx p hp)), nro.mono fun a o z => .tail _ z⟩ (fun a ha o ho => ?_)
  · refine List.mem_append_right _ (.tail _ ?_)
    have : p.1 ∈ ([(sp, listO (svs ++ [.ref spl]) k1), (spl, listO lvs k2), (tu, listO ((tvs ++ [.ref tul]) ++ [.ref Dn]) (k3 + 1)), (Dn, listO [] 0), (tr, listO trv k5), (L + 1 + 1 + 1 + 1, oj)] : List (Addr × Obj)).map (·.1) := List.mem_map_of_mem hp
    exact this
  · rcases List.mem_cons.mp hp with rfl | hp
    · refine ⟨rl, q4.2.2, fun z => ?_, fun z => G5.ap _ z (tX _ (.tail _ (.tail _ (.tail _ (.tail _ (.head _))))))⟩
      rcases List.mem_append.mp z with z | z
      · exact hof _ z (.tail _ (.tail _ (.tail _ (.tail _ (.head _)))))
      · simp only [List.mem_cons, List.not_mem_nil, or_false] at z
        rcases z with z | z | z | z | z | z | z
        · exact q4.2.1 z
        · exact a3 z.symm
        · exact a7 z.symm
        · exact a10 z.symm
        · exact d4 z
        · exact a13 z
        · exact a14 z
    · obtain ⟨s1, s2, s3, s4⟩ := G5.sb p hp
      exact ⟨M3 _ _ s3 s1, s2, notX _ s3 (offD _ ⟨_, s1⟩), s4⟩
  · simp only [List.nodup_cons, List.mem_cons, List.not_mem_nil, or_false, not_or, List.nodup_nil, and_true, not_false_eq_true]
    exact ⟨⟨a1, a2, d1, a4, a5⟩, ⟨a6, d2, a8, a9⟩, ⟨d3, a11, a12⟩, ⟨Ne.symm d5, Ne.symm d6⟩, a15⟩
  · exact keep a o (fun z => hof a ha (z ▸ (.tail _ (.tail _ (.tail _ (.head _)))))) (M1 a o (fun z => by
      rw [List.mem_singleton.mp z] at ha
      exact G.ap L2 (foot2 (.tail _ (.tail _ (.tail _ (.head _))))) (XsX _ ha)) ho)
end
section
local macro_rules | `(tactic| walk_at "bf none") => `(tactic| skip)
local macro_rules | `(tactic| walk_at "bf none") => `(tactic| skip)
local macro_rules | `(tactic| walk_at "bf none") => `(tactic| skip)
local macro_rules | `(tactic| walk_at "bf none") => `(tactic| skip)
local macro_rules | `(tactic| walk_at "bf none") => `(tactic| skip)
local macro_rules | `(tactic| walk_at "bf none") => `(tactic| skip)
local macro_rules | `(tactic| walk_at "bf sub") => `(tactic| (repeat (first | exact List.Sublist.refl _ | exact List.nil_sublist _ | refine List.Sublist.cons₂ _ ?_ | refine List.Sublist.cons _ ?_)))
local macro_rules | `(tactic| walk_at "bf v7") => `(tactic| repeat' (first | ((fail_if_success (with_reducible show wpAny _ _ (getMethod (Value.ref _) _ _) _ _ _)); (fail_if_success (with_reducible show wpAny _ _ (call (Value.ref _) _) _ _ _)); (fail_if_success (with_reducible show wpAny _ _ (exec (PySem.Stmt.Try _ _ _ _ _) _) _ _ _)); (first | (k_unfold; (try dsimp only)) | (walk1 <;> (try dsimp only)))) | fail "no step"))
theorem seg7 {s0 : Shared} {K : Cst} {x : Fx} {A : Around} {X : List Addr} {stb : List (Addr × Obj)} {t1 t2 : Int} {b1 b2 : List BH} {v : Vars} {al pu : Int} {ta tp : Tok} {spI : List (List Int)} {spL : List Int} {tuI : List (List Int)} {tuL tried : List Int} {xj : Option Value}
    {spl tul : Addr} {svs tvs lvs uvs trv : List Value} {k1 k2 k3 k4 k5 : Nat} {oj : Obj} {s : Shared} {Q : Flow → Shared → Prop}
    (LA : LawAt K x A) {an : Nat} (hal : al = (an : Int)) (hb : b2.length = an) (hbz : 1 ≤ an ∧ an < 100)
    {st0 st1 : List Stmt} (hst0 : st0 = ifElse (ifElse (ifElse (forBody 10 (bodyAt (hd1.heap_39 K.w.params) 557)) 2) 0) 0) (hst1 : st1 = [])
    (S : StA s0 K x X stb t1 t2 b1 b2 v al ta pu tp spI spL tuI tuL tried xj spl tul svs tvs lvs uvs trv k1 k2 k3 k4 k5 oj s)
    (k : ∀ v' an' ta' b2' s', v'.t = v.t → v'.x = v.x → v'.key = v.key → v'.row = v.row → v'.begun = v.begun → ((an = 1 ∧ an' = 1 ∧ b2' = b2) ∨ (1 < an ∧ an' = an - 1 ∧ b2' = b2.tail)) → StA s0 K x X stb t1 t2 b1 b2' v' (an' : Nat) ta' pu tp spI spL tuI tuL tried xj spl tul svs tvs lvs uvs trv k1 k2 k3 k4 k5 oj s' →
      (∀ a ∈ X, a ∉ K.L :: (cells6 x spl tul svs tvs lvs uvs trv k1 k2 k3 k4 k5 oj).map (·.1) → ∀ o, s.heap.get? a = some o → s'.heap.get? a = some o) → Q .next s') :
    wpAny (model PySem.Challenge.rw_sv0019_01.row.prog K.w) (A.deeper (lawEnv K.w K.L)) (execs st0 (lawEnv K.w K.L)) Q (fun _ _ => False) s := by
  subst hst0
  subst hst1
  revert k
  obtain ⟨w, g, c, L, D, q, e1, de1, L1, e2, de2, L2⟩ := K
  obtain ⟨PN, f, sp, tu, tr, cj, cd, cs, lr, l0, od, os, rts, rk, rows, tn, tm, te, td⟩ := x
  obtain ⟨hr, hfr, XK, ⟨p₁, loose, mean, mg, mb, T⟩, ok, hf, ff, HFs, ⟨sm1, sm2, sm3⟩, hq, hrows, hod, hos, ⟨ad1, ad2, ad3⟩⟩ := LA
  obtain ⟨vt, vx, vkind, vkey, vrow, vforced, vbegun, vpopped, vheaps, vsaid⟩ := v
  dsimp only at *
  subst hal
  subst ad1 ad2 ad3
  obtain ⟨hd0, dp0, fr0, gd0, un0⟩ := A
  obtain rfl : hd0 = none := hr.hd
  refine' with_lookup (K := hd1.heap_39 w.params) (f := 557) ?ho ?_
  case ho => k_is
  intro hB hS
  unfold lawEnv
  rw [hB, hS]
  dsimp only [forBody, ifThen, ifElse, List.getElem?_cons_succ, List.getElem?_cons_zero, List.drop_succ_cons, List.drop_zero]
  intro k
  clear hB hS
  obtain ⟨G, nsp, isp, ntu, itu, itr, hj, nd, fx, nro⟩ := S
  have F := G.fr
  unfold lawMap at F
  obtain ⟨⟨a1, a2, a3, a4, a5⟩, ⟨a6, a7, a8, a9⟩, ⟨a10, a11, a12⟩, ⟨a13, a14⟩, a15⟩ := nodup6 nd
  obtain ⟨⟨c1, c2, c3, c4, c5⟩, ⟨c6, c7, c8, c9, c10⟩, ⟨c11, c12, c13, c14, c15, c16⟩⟩ := apart93 G fx
  dsimp only at a1 a2 a3 a4 a5 a6 a7 a8 a9 a10 a11 a12 a13 a14 a15 c1 c2 c3 c4 c5 c6 c7 c8 c9 c10 c11 c12 c13 c14 c15 c16
  have N0 := G.news _ fx
  obtain ⟨own, N, hoff, rb, rn⟩ := rebase2 G.fr N0
  simp only [cells6, fix3] at hoff
  simp only [cells6, fix3, List.cons_append, List.nil_append] at N
  walk_at "bf v7"
  rename Fr _ _ _ _ => F1
  rename News _ _ _ _ => N1
  have M1 := rb _ _ F1 (news_sub N1 (by walk_at "bf sub"))
  have G1 := fun tk0 => G.walk (tk' := tk0) (cells' := [(sp, listO (svs ++ [.ref spl]) k1), (spl, listO lvs k2), (tu, listO (tvs ++ [.ref tul]) k3), (tul, listO uvs k4), (tr, listO trv k5), (L + 1 + 1 + 1 + 1, oj)]) M1 F1 (news_sub N1 (by walk_at "bf sub")) rfl
  refine wpAny_Try_except ?_
  walk_at "bf v7"
  refine meth_pop (h₀ := c) (G1 _).on (G1 _).f2 ?_
  walk_at "bf v7"
  refine wpAny_call ?_
  have gL : c.get? L = none := (G.x0 _ G.hL).1
  refine pop_rot (h₀ := c) (G1 _).on (hr.down 129).deeper (G1 _).f2 (by omega) (outer := [_]) (B := hideAll _ [L]) (Around.frames_deeper hfr) (Heap.FunFrames.cons (by intro z; cases z) rfl F1.ns (hideAll_none _ (.head _)) trivial) (fun b o q => of_hideAll _ q) ?ret ?retE
  case ret =>
    intro hne1 h2 tk2 M2 Fi2
    have ow2 : Own s.heap b2 b2.tail := fun a ha => .inl (by
      obtain ⟨b, hb, hm⟩ := List.mem_flatMap.mp ha
      exact List.mem_flatMap.mpr ⟨b, List.mem_of_mem_tail hb, hm⟩)
    have ow3 := fun (h9 : Heap) => (show Own h9 b2 b2.tail from fun a ha => .inl (by
      obtain ⟨b, hb, hm⟩ := List.mem_flatMap.mp ha
      exact List.mem_flatMap.mpr ⟨b, List.mem_of_mem_tail hb, hm⟩))
    have G2 := (G1 0).call2 (W := [L2]) (Aft.plain (tk := tk2) M2) (fun a ha => by rw [List.mem_singleton.mp ha]; exact .tail _ (.tail _ (.tail _ (.head _)))) ((G1 0).tab.mod M2 fun z => (G1 0).f2.tabOff (G1 0).tab (List.mem_singleton.mp z ▸ .tail _ (.tail _ (.head _)))) Fi2 (ow3 _)
    have off2 : ∀ a ∈ X, ∀ o, _ → h2.get? a = some o := fun a ha o ho => M2 a o (fun z => by
      rw [List.mem_singleton.mp z] at ha
      exact G.ap L2 (foot2 (.tail _ (.tail _ (.tail _ (.head _))))) ha) ho
    have N0' := G2.news _ fx
    obtain ⟨own2, N2, hoff2, rb2, rn2⟩ := rebase2 G2.fr N0'
    have F2 := G2.fr
    simp only [fix3] at hoff2
    simp only [fix3, List.cons_append, List.nil_append] at N2
    (try dsimp only at F2 N2 rb2 rn2 off2)
    clear F1 N1 hoff
    walk_at "bf v7"
    · rename (_ != _) = true => hcc
      exfalso
      simp at hcc
      omega
    rename Fr _ _ _ _ => F8
    rename News _ _ _ _ => N8
    have M8 := rb2 _ _ F8 (news_sub N8 (by walk_at "bf sub"))
    have e8 : (an : Int) - 1 = ((an - 1 : Nat) : Int) := by omega
    rw [e8] at F8
    have F9 := canonF (base := Fx.base ⟨PN, f, sp, tu, tr, L + 1 + 1 + 1 + 1, L + 1 + 1 + 1, L + 1, lr, l0, od, os, rts, rk, rows, tn, tm, te, td⟩ ⟨w, g, c, L, D, q, e1, de1, L1, e2, de2, L2⟩) F8 rfl rfl (fun y y1 y2 y3 y4 y5 y6 y7 y8 y9 y10 y11 y12 => by simp only [if_neg y1, if_neg y2, if_neg y3, if_neg y4, if_neg y5, if_neg y6, if_neg y7, if_neg y8, if_neg y9, if_neg y10, if_neg y11, if_neg y12])
    have G8 := fun tk0 => G2.walk (tk' := tk0) (cells' := [(sp, listO (svs ++ [.ref spl]) k1), (spl, listO lvs k2), (tu, listO (tvs ++ [.ref tul]) k3), (tul, listO uvs k4), (tr, listO trv k5), (L + 1 + 1 + 1 + 1, oj)]) M8 F9 (news_sub N8 (by walk_at "bf sub")) rfl
    exact k _ (an - 1) _ b2.tail _ rfl rfl rfl rfl rfl (.inr ⟨by omega, rfl, rfl⟩) ⟨G8 _, nsp, isp, ntu, itu, itr, hj, nd, fx, nro⟩ (fun a ha hn o ho => M8 a o hn (off2 a ha o (M1 a o hn ho)))
  case retE =>
    intro hlen x9 tp9 h2 tk2 fl u2
    have gB : ∀ b o, g.get? b = some o → (hideAll _ [L]).get? b = some o := fun b o q => hideAll_get _ (F1.keep b o q) (fun z => by
      have := G.gc _ _ q
      rw [List.mem_singleton.mp z, gL] at this; cases this)
    (try dsimp only at u2 fl)
    refine caught90 (outer := []) hfr rfl fl (XK.keeps gB) ?nm ?kk
    case nm =>
      intro h₅ Q' E' st5 u5 hQ
      exact Name_function_global rfl rfl (loadGlobal_global (T.keeps fun b o q => st5 b o (gB b o q)).g (mg_of XK T.g (by k_is)) hQ) (by decide)
    case kk =>
      intro h₆ st6 u6
      have M6 : Mod [L] _ h₆ := fun b o hb q => st6 b o (hideAll_get _ q hb)
      have F6 := F1.of_stays (fun b o q => st6 b o (gB b o q)) (u2.trans u6)
      have N6 := news_mod (G1 0).nw M6 (fun p hp z => ((G1 0).nw p hp).2.1 (List.mem_singleton.mp z))
      have G6 := fun tk0 => (G1 0).walk (tk' := tk0) (M6.mono fun a ha => by rw [List.mem_singleton.mp ha]; exact .head _) F6 N6 rfl
      have N0' := (G6 0).news _ fx
      obtain ⟨own2, N2, hoff2, rb2, rn2⟩ := rebase2 F6 N0'
      simp only [fix3] at hoff2
      simp only [fix3, List.cons_append, List.nil_append] at N2
      have ha1 : an = 1 := by omega
      clear F1 N1 hoff
      dsimp only
      walk_at "bf v7"
      · rename (_ != _) = true => hcc
        exfalso
        simp at hcc
        omega
      rename Fr _ _ _ _ => F8
      rename News _ _ _ _ => N8
      have M8 := rb2 _ _ F8 (news_sub N8 (by walk_at "bf sub"))
      have F9 := canonF (base := Fx.base ⟨PN, f, sp, tu, tr, L + 1 + 1 + 1 + 1, L + 1 + 1 + 1, L + 1, lr, l0, od, os, rts, rk, rows, tn, tm, te, td⟩ ⟨w, g, c, L, D, q, e1, de1, L1, e2, de2, L2⟩) F8 rfl rfl (fun y y1 y2 y3 y4 y5 y6 y7 y8 y9 y10 y11 y12 => by simp only [if_neg y1, if_neg y2, if_neg y3, if_neg y4, if_neg y5, if_neg y6, if_neg y7, if_neg y8, if_neg y9, if_neg y10, if_neg y11, if_neg y12])
      have G8 := fun tk0 => (G6 0).walk (tk' := tk0) (cells' := [(sp, listO (svs ++ [.ref spl]) k1), (spl, listO lvs k2), (tu, listO (tvs ++ [.ref tul]) k3), (tul, listO uvs k4), (tr, listO trv k5), (L + 1 + 1 + 1 + 1, oj)]) M8 F9 (news_sub N8 (by walk_at "bf sub")) rfl
      exact k _ an _ b2 _ rfl rfl rfl rfl rfl (.inl ⟨ha1, ha1, rfl⟩) ⟨G8 _, nsp, isp, ntu, itu, itr, hj, nd, fx, nro⟩ (fun a ha hn o ho => M8 a o hn (M6 a o (fun z => hn (by rw [List.mem_singleton.mp z]; exact .head _)) (M1 a o hn ho)))
end
section
local macro_rules | `(tactic| walk_at "bf none") => `(tactic| skip)
local macro_rules | `(tactic| walk_at "bf none") => `(tactic| skip)
local macro_rules | `(tactic| walk_at "bf none") => `(tactic| skip)
local macro_rules | `(tactic| walk_at "bf none") => `(tactic| skip)
local macro_rules | `(tactic| walk_at "bf none") => `(tactic| skip)
local macro_rules | `(tactic| walk_at "bf none") => `(tactic| skip)
local macro_rules | `(tactic| walk_at "bf none") => `(tactic| skip)
local macro_rules | `(tactic| walk_at "bf sub") => `(tactic| (repeat (first | exact List.Sublist.refl _ | exact List.nil_sublist _ | refine List.Sublist.cons₂ _ ?_ | refine List.Sublist.cons _ ?_)))
local macro_rules | `(tactic| walk_at "bf w8") => `(tactic| repeat' (first | ((fail_if_success (with_reducible show wpAny _ _ (getMethod (Value.ref _) _ _) _ _ _)); (fail_if_success (with_reducible show wpAny _ _ (getAttr (Value.ref _) _ _) _ _ _)); (fail_if_success (with_reducible show wpAny _ _ (call (Value.ref _) _) _ _ _)); (fail_if_success (with_reducible show wpAny _ _ (subscriptTail _ _ (Value.ref _) (Value.ref _)) _ _ _)); (fail_if_success (with_reducible show wpAny _ _ (call (Value.builtin "min") _) _ _ _)); (fail_if_success (with_reducible show wpAny _ _ (execs (PySem.Stmt.If _ _ _ _ :: _) _) _ _ _)); (first | (k_unfold; (try dsimp only)) | (walk1 <;> (try dsimp only)))) | fail "no step"))
theorem seg8a {s0 : Shared} {K : Cst} {x : Fx} {A : Around} {X : List Addr} {stb : List (Addr × Obj)} {t1 t2 : Int} {b1 b2 : List BH} {v : Vars} {al pu : Int} {ta tp tb : Tok} {spI : List (List Int)} {spL : List Int} {tuI : List (List Int)} {tuL tried : List Int} {xj : Option Value}
    {spl tul : Addr} {svs tvs lvs uvs trv : List Value} {k1 k2 k3 k4 k5 : Nat} {oj : Obj} {s : Shared} {Q : Flow → Shared → Prop} {an B0 : Nat}
    (LA : LawAt K x A) (hal : al = (an : Int)) (hv : v.begun = some (.int (B0 : Nat) tb)) (hB0 : B0 ≤ (heapsOf K.D.est (tuI ++ [tuL])).length) (P : Plain x spI spL tuI tuL)
    {st0 st1 : List Stmt} (hst0 : st0 = (forBody 10 (bodyAt (hd1.heap_39 K.w.params) 557)).drop 3) (hst1 : st1 = (forBody 10 (bodyAt (hd1.heap_39 K.w.params) 557)).drop 5)
    (S : StA s0 K x X stb t1 t2 b1 b2 v al ta pu tp spI spL tuI tuL tried xj spl tul svs tvs lvs uvs trv k1 k2 k3 k4 k5 oj s)
    (k : ∀ v' ta' stb' Dh hys hk s', v'.t = v.t → v'.x = v.x → v'.key = v.key → v'.row = v.row → v'.heaps = some (.ref Dh) → (∀ p ∈ stb, p ∈ stb') → (Dh, listO hys hk) ∈ stb' → Nest (fun a o => (a, o) ∈ stb') hys (heapsOf K.D.est (tuI ++ [tuL])) →
      StA s0 K x X stb' t1 t2 b1 b2 v' (min (an + ((heapsOf K.D.est (tuI ++ [tuL])).length - B0)) K.q.toNat : Nat) ta' pu tp spI spL tuI tuL tried xj spl tul svs tvs lvs uvs trv k1 k2 k3 k4 k5 oj s' →
      (∀ a ∈ X, a ∉ K.L :: (cells6 x spl tul svs tvs lvs uvs trv k1 k2 k3 k4 k5 oj).map (·.1) → ∀ o, s.heap.get? a = some o → s'.heap.get? a = some o) →
      wpAny (model PySem.Challenge.rw_sv0019_01.row.prog K.w) (A.deeper (lawEnv K.w K.L)) (execs st1 (lawEnv K.w K.L)) Q (fun _ _ => False) s') :
    wpAny (model PySem.Challenge.rw_sv0019_01.row.prog K.w) (A.deeper (lawEnv K.w K.L)) (execs st0 (lawEnv K.w K.L)) Q (fun _ _ => False) s := by
  subst hst0
  subst hst1
  revert k
  obtain ⟨w, g, c, L, D, q, e1, de1, L1, e2, de2, L2⟩ := K
  obtain ⟨PN, f, sp, tu, tr, cj, cd, cs, lr, l0, od, os, rts, rk, rows, tn, tm, te, td⟩ := x
  obtain ⟨hr, hfr, XK, ⟨p₁, loose, mean, mg, mb, T⟩, ok, hf, ff, HFs, ⟨sm1, sm2, sm3⟩, hq, hrows, hod, hos, ⟨ad1, ad2, ad3⟩⟩ := LA
  obtain ⟨vt, vx, vkind, vkey, vrow, vforced, vbegun, vpopped, vheaps, vsaid⟩ := v
  dsimp only at *
  subst hal
  subst hv
  subst ad1 ad2 ad3
  obtain ⟨hd0, dp0, fr0, gd0, un0⟩ := A
  obtain rfl : hd0 = none := hr.hd
  refine' with_lookup (K := hd1.heap_39 w.params) (f := 557) ?ho ?_
  case ho => k_is
  intro hB hS
  unfold lawEnv
  rw [hB, hS]
  dsimp only [forBody, ifThen, ifElse, List.getElem?_cons_succ, List.getElem?_cons_zero, List.drop_succ_cons, List.drop_zero]
  intro k
  clear hB hS
  obtain ⟨G, nsp, isp, ntu, itu, itr, hj, nd, fx, nro⟩ := S
  have F := G.fr
  unfold lawMap at F
  obtain ⟨⟨a1, a2, a3, a4, a5⟩, ⟨a6, a7, a8, a9⟩, ⟨a10, a11, a12⟩, ⟨a13, a14⟩, a15⟩ := nodup6 nd
  obtain ⟨⟨c1, c2, c3, c4, c5⟩, ⟨c6, c7, c8, c9, c10⟩, ⟨c11, c12, c13, c14, c15, c16⟩⟩ := apart93 G fx
  dsimp only at a1 a2 a3 a4 a5 a6 a7 a8 a9 a10 a11 a12 a13 a14 a15 c1 c2 c3 c4 c5 c6 c7 c8 c9 c10 c11 c12 c13 c14 c15 c16
  have N0 := G.news _ fx
  obtain ⟨own, N, hoff, rb, rn⟩ := rebase2 G.fr N0
  simp only [cells6, fix3] at hoff
  simp only [cells6, fix3, List.cons_append, List.nil_append] at N
  obtain ⟨z1, z2, z3, z4⟩ := P
  have O0 : Wd w g := ⟨XK, _, _, _, _, _, T⟩
  have few := heaps_few (n := D.est) z3 fun l hl => (z4 l hl).1
  walk_at "bf w8"
  refine wpAny_call ?_
  refine heaps_spec (spans := tuI ++ [tuL]) (Wd.keeps O0 F.keep) (hr.down 146).deeper (N (tu, listO (tvs ++ [.ref tul]) k3) (by k_mem)).1 (Nest.append (ntu.mono fun a o z => G.stab z) (.cons (N (tul, listO uvs k4) (by k_mem)).1 itu .nil)) ⟨ok.est, by omega⟩ (by simp; omega) (fun l hl => by have := (z4 l hl).1; omega) ?_
  intro Dh hys h2 tk2 M2 nD hD hN
  (try dsimp only at M2 nD)
  have hyl : hys.length = (heapsOf D.est (tuI ++ [tuL])).length := hN.len
  obtain ⟨ps, hps1, hps2⟩ := hN.pairs
  have G2 := G.take (tk' := 0) (ps := (Dh, listO hys hys.length) :: ps) M2 (fun p hp => by
    rcases List.mem_cons.mp hp with rfl | hp
    · exact ⟨hD, nD⟩
    · exact ⟨(hps2 p hp).1, (hps2 p hp).2.1⟩)
  have fx2 : ∀ p ∈ fix3 ⟨PN, f, sp, tu, tr, L + 1 + 1 + 1 + 1, L + 1 + 1 + 1, L + 1, lr, l0, od, os, rts, rk, rows, tn, tm, te, td⟩, p ∈ ((Dh, listO hys hys.length) :: ps) ++ stb := fun p hp => List.mem_append_right _ (fx p hp)
  have N2' := G2.news [((L + 1 + 1 + 1 : Nat), od), ((L + 1 : Nat), os), (lr, listO rts rk), (Dh, listO hys hys.length)] (fun p hp => by
    rcases List.mem_append.mp (show p ∈ [((L + 1 + 1 + 1 : Nat), od), ((L + 1 : Nat), os), (lr, listO rts rk)] ++ [(Dh, listO hys hys.length)] from hp) with hp | hp
    · exact fx2 p hp
    · rw [List.mem_singleton.mp hp]; exact .head _)
  clear N hoff rb rn
  obtain ⟨own2, N2, hoff, rb, rn⟩ := rebase2 G2.fr N2'
  have F2 := G2.fr
  unfold lawMap at F2
  simp only [cells6] at hoff
  simp only [cells6, List.cons_append, List.nil_append] at N2
  (try dsimp only at F2 N2)
  clear F
  walk_at "bf w8"
  rename Fr _ _ _ _ => F3
  rename News _ _ _ _ => N3
  refine min_keep rfl F3 N3 ?_
  intro h4 tk4 tt4 M4 F4 N4
  have em : min ((an : Int) + ((hys.toArray.size : Nat) : Int) - (B0 : Int)) q = ((min (an + ((heapsOf D.est (tuI ++ [tuL])).length - B0)) q.toNat : Nat) : Int) := by
    rw [List.size_toArray, hyl]; omega
  rw [em]
  clear F3 N3
  walk_at "bf w8"
  rename Fr _ _ _ _ => F5
  rename News _ _ _ _ => N5
  have M5 := rb _ _ F5 (news_sub N5 (by walk_at "bf sub"))
  have F6 := canonF (base := Fx.base ⟨PN, f, sp, tu, tr, L + 1 + 1 + 1 + 1, L + 1 + 1 + 1, L + 1, lr, l0, od, os, rts, rk, rows, tn, tm, te, td⟩ ⟨w, g, c, L, D, q, e1, de1, L1, e2, de2, L2⟩) F5 rfl rfl (fun y y1 y2 y3 y4 y5 y6 y7 y8 y9 y10 y11 y12 => by simp only [if_neg y1, if_neg y2, if_neg y3, if_neg y4, if_neg y5, if_neg y6, if_neg y7, if_neg y8, if_neg y9, if_neg y10, if_neg y11, if_neg y12])
  have G5 := fun tk0 => G2.walk (tk' := tk0) (cells' := [(sp, listO (svs ++ [.ref spl]) k1), (spl, listO lvs k2), (tu, listO (tvs ++ [.ref tul]) k3), (tul, listO uvs k4), (tr, listO trv k5), (L + 1 + 1 + 1 + 1, oj)]) M5 F6 (news_sub N5 (by walk_at "bf sub")) rfl
  have up : ∀ p ∈ stb, p ∈ ((Dh, listO hys hys.length) :: ps) ++ stb := fun p hp => List.mem_append_right _ hp
  exact k _ _ _ Dh hys hys.length _ rfl rfl rfl rfl rfl up (.head _) (hps1.mono fun a o z => List.mem_append_left _ (.tail _ z)) ⟨G5 _, nsp.mono fun a o z => up _ z, isp, ntu.mono fun a o z => up _ z, itu, itr, hj, nd, fx2, nro.mono fun a o z => up _ z⟩ (fun a ha hn o ho => M5 a o hn (M2 a o (fun z => nomatch z) ho))
end
section
local macro_rules | `(tactic| walk_at "bf none") => `(tactic| skip)
local macro_rules | `(tactic| walk_at "bf none") => `(tactic| skip)
local macro_rules | `(tactic| walk_at "bf none") => `(tactic| skip)
local macro_rules | `(tactic| walk_at "bf none") => `(tactic| skip)
local macro_rules | `(tactic| walk_at "bf none") => `(tactic| skip)
local macro_rules | `(tactic| walk_at "bf none") => `(tactic| skip)
local macro_rules | `(tactic| walk_at "bf none") => `(tactic| skip)
local macro_rules | `(tactic| walk_at "bf none") => `(tactic| skip)
local macro_rules | `(tactic| walk_at "bf sub") => `(tactic| (repeat (first | exact List.Sublist.refl _ | exact List.nil_sublist _ | refine List.Sublist.cons₂ _ ?_ | refine List.Sublist.cons _ ?_)))
local macro_rules | `(tactic| walk_at "bf w8") => `(tactic| repeat' (first | ((fail_if_success (with_reducible show wpAny _ _ (getMethod (Value.ref _) _ _) _ _ _)); (fail_if_success (with_reducible show wpAny _ _ (getAttr (Value.ref _) _ _) _ _ _)); (fail_if_success (with_reducible show wpAny _ _ (call (Value.ref _) _) _ _ _)); (fail_if_success (with_reducible show wpAny _ _ (subscriptTail _ _ (Value.ref _) (Value.ref _)) _ _ _)); (fail_if_success (with_reducible show wpAny _ _ (call (Value.builtin "min") _) _ _ _)); (fail_if_success (with_reducible show wpAny _ _ (execs (PySem.Stmt.If _ _ _ _ :: PySem.Stmt.Assign _ _ _ :: _) _) _ _ _)); (fail_if_success (with_reducible show wpAny _ _ (compareOp _ (Value.ref _) (Value.ref _)) _ _ _)); (first | (k_unfold; (try dsimp only)) | (walk1 <;> (try dsimp only)))) | fail "no step"))
theorem seg8b {s0 : Shared} {K : Cst} {x : Fx} {A : Around} {X : List Addr} {stb : List (Addr × Obj)} {t1 t2 : Int} {b1 b2 : List BH} {v : Vars} {al pu : Int} {ta tp : Tok} {spI : List (List Int)} {spL : List Int} {tuI : List (List Int)} {tuL tried : List Int} {xj : Option Value}
    {spl tul : Addr} {svs tvs lvs uvs trv : List Value} {k1 k2 k3 k4 k5 : Nat} {oj : Obj} {s : Shared} {Q : Flow → Shared → Prop}
    (LA : LawAt K x A) (hb : b1.length = (heapsOf K.D.est (spI ++ [spL])).length) (ht : t1 = pu) (P : Plain x spI spL tuI tuL)
    {st0 st1 : List Stmt} (hst0 : st0 = (forBody 10 (bodyAt (hd1.heap_39 K.w.params) 557)).drop 5) (hst1 : st1 = (forBody 10 (bodyAt (hd1.heap_39 K.w.params) 557)).drop 6)
    (S : StA s0 K x X stb t1 t2 b1 b2 v al ta pu tp spI spL tuI tuL tried xj spl tul svs tvs lvs uvs trv k1 k2 k3 k4 k5 oj s)
    (k : ∀ s', StA s0 K x X stb t1 t2 b1 b2 v al ta pu tp spI spL tuI tuL tried xj spl tul svs tvs lvs uvs trv k1 k2 k3 k4 k5 oj s' →
      (∀ a ∈ X, a ∉ K.L :: (cells6 x spl tul svs tvs lvs uvs trv k1 k2 k3 k4 k5 oj).map (·.1) → ∀ o, s.heap.get? a = some o → s'.heap.get? a = some o) →
      wpAny (model PySem.Challenge.rw_sv0019_01.row.prog K.w) (A.deeper (lawEnv K.w K.L)) (execs st1 (lawEnv K.w K.L)) Q (fun _ _ => False) s') :
    wpAny (model PySem.Challenge.rw_sv0019_01.row.prog K.w) (A.deeper (lawEnv K.w K.L)) (execs st0 (lawEnv K.w K.L)) Q (fun _ _ => False) s := by
  subst hst0
  subst hst1
  revert k
  obtain ⟨w, g, c, L, D, q, e1, de1, L1, e2, de2, L2⟩ := K
  obtain ⟨PN, f, sp, tu, tr, cj, cd, cs, lr, l0, od, os, rts, rk, rows, tn, tm, te, td⟩ := x
  obtain ⟨hr, hfr, XK, ⟨p₁, loose, mean, mg, mb, T⟩, ok, hf, ff, HFs, ⟨sm1, sm2, sm3⟩, hq, hrows, hod, hos, ⟨ad1, ad2, ad3⟩⟩ := LA
  obtain ⟨vt, vx, vkind, vkey, vrow, vforced, vbegun, vpopped, vheaps, vsaid⟩ := v
  dsimp only at *
  subst ht
  subst ad1 ad2 ad3
  obtain ⟨hd0, dp0, fr0, gd0, un0⟩ := A
  obtain rfl : hd0 = none := hr.hd
  refine' with_lookup (K := hd1.heap_39 w.params) (f := 557) ?ho ?_
  case ho => k_is
  intro hB hS
  unfold lawEnv
  rw [hB, hS]
  dsimp only [forBody, ifThen, ifElse, List.getElem?_cons_succ, List.getElem?_cons_zero, List.drop_succ_cons, List.drop_zero]
  intro k
  clear hB hS
  obtain ⟨G, nsp, isp, ntu, itu, itr, hj, nd, fx, nro⟩ := S
  have F := G.fr
  unfold lawMap at F
  obtain ⟨⟨a1, a2, a3, a4, a5⟩, ⟨a6, a7, a8, a9⟩, ⟨a10, a11, a12⟩, ⟨a13, a14⟩, a15⟩ := nodup6 nd
  obtain ⟨⟨c1, c2, c3, c4, c5⟩, ⟨c6, c7, c8, c9, c10⟩, ⟨c11, c12, c13, c14, c15, c16⟩⟩ := apart93 G fx
  dsimp only at a1 a2 a3 a4 a5 a6 a7 a8 a9 a10 a11 a12 a13 a14 a15 c1 c2 c3 c4 c5 c6 c7 c8 c9 c10 c11 c12 c13 c14 c15 c16
  have N0 := G.news _ fx
  obtain ⟨own, N, hoff, rb, rn⟩ := rebase2 G.fr N0
  simp only [cells6, fix3] at hoff
  simp only [cells6, fix3, List.cons_append, List.nil_append] at N
  obtain ⟨z1, z2, z3, z4⟩ := P
  have O0 : Wd w g := ⟨XK, _, _, _, _, _, T⟩
  have few := heaps_few (n := D.est) z1 fun l hl => (z2 l hl).1
  (walk1; (try dsimp only))
  walk_at "bf w8"
  refine fil_len (h₀ := c) G.on (hr.down 143).deeper G.f1 (by omega) ?_
  intro u1 h1 tk1 M1
  have G1 := G.call0 (tk' := tk1) M1
  have F1 := fr_mod0 F M1
  have N1 := news_mod0 N M1
  clear F N
  walk_at "bf w8"
  refine fil_added (h₀ := c) G1.on (hr.down 143).deeper G1.f1 ?_
  intro u2 h2 tk2 M2
  have G2 := G1.call0 (tk' := tk2) M2
  have F2 := fr_mod0 F1 M2
  have N2 := news_mod0 N1 M2
  clear F1 N1
  walk_at "bf w8"
  refine fil_est (h₀ := c) G2.on (hr.down 143).deeper G2.f1 ?_
  intro u3 h3 tk3 M3
  have G3 := G2.call0 (tk' := tk3) M3
  have F3 := fr_mod0 F2 M3
  have N3 := news_mod0 N2 M3
  clear F2 N2
  walk_at "bf w8"
  rename Fr _ _ _ _ => F4
  rename News _ _ _ _ => N4
  have M4 := rb _ _ F4 (news_sub N4 (by walk_at "bf sub"))
  refine wpAny_call ?_
  refine heaps_spec (spans := spI ++ [spL]) (Wd.keeps O0 F4.keep) (hr.down 146).deeper (N4 (sp, listO (svs ++ [.ref spl]) k1) (by k_mem)).1 (Nest.append (nsp.mono fun a o z => G.stabM M4 z) (.cons (N4 (spl, listO lvs k2) (by k_mem)).1 isp .nil)) ⟨ok.est, by omega⟩ (by simp; omega) (fun l hl => by have := (z2 l hl).1; omega) ?_
  intro Dh hys h5 tk5 M5 nD hD hN
  (try dsimp only at M5 nD)
  have hyl : hys.length = (heapsOf D.est (spI ++ [spL])).length := hN.len
  have F5 := fr_mod0 F4 M5
  have N5 := news_add (news_mod0 N4 M5) hD (fr_new F4 nD)
  clear F4 N4
  walk_at "bf w8"
  rename Fr _ _ _ _ => F6
  rename News _ _ _ _ => N6
  refine ke_ne_ints (News.isList N6 (.tail _ (.tail _ (.head _)))) (News.isList N6 (.head _)) (.cons _ _ (.cons _ _ (.cons _ _ .nil))) (.cons _ _ (.cons _ _ (.cons _ _ .nil))) (Nat.lt_of_le_of_lt (Nat.add_le_add_left (by decide) _) ((hr.down 142).deeper).units) ?_
  rw [List.size_toArray, hyl, hb]
  simp only [decide_true, Bool.not_true]
  walk_at "bf w8"
  rename Fr _ _ _ _ => F7
  rename News _ _ _ _ => N7
  have M7 := rb _ _ F7 (news_sub N7 (by walk_at "bf sub"))
  have G7 := fun tk0 => G.walk (tk' := tk0) M7 F7 (news_sub N7 (by unfold cells6; walk_at "bf sub")) rfl
  exact k _ ⟨G7 _, nsp, isp, ntu, itu, itr, hj, nd, fx, nro⟩ (fun a ha hn o ho => M7 a o hn ho)
end
section
local macro_rules | `(tactic| walk_at "bf none") => `(tactic| skip)
local macro_rules | `(tactic| walk_at "bf sub") => `(tactic| (repeat (first | exact List.Sublist.refl _ | exact List.nil_sublist _ | refine List.Sublist.cons₂ _ ?_ | refine List.Sublist.cons _ ?_)))
local macro_rules | `(tactic| walk_at "bf w8") => `(tactic| repeat' (first | ((fail_if_success (with_reducible show wpAny _ _ (getMethod (Value.ref _) _ _) _ _ _)); (fail_if_success (with_reducible show wpAny _ _ (getAttr (Value.ref _) _ _) _ _ _)); (fail_if_success (with_reducible show wpAny _ _ (call (Value.ref _) _) _ _ _)); (fail_if_success (with_reducible show wpAny _ _ (subscriptTail _ _ (Value.ref _) (Value.ref _)) _ _ _)); (fail_if_success (with_reducible show wpAny _ _ (call (Value.builtin "min") _) _ _ _)); (fail_if_success (with_reducible show wpAny _ _ (execs (PySem.Stmt.Assign _ _ _ :: PySem.Stmt.If _ _ _ _ :: _) _) _ _ _)); (fail_if_success (with_reducible show wpAny _ _ (compareOp _ (Value.ref _) (Value.ref _)) _ _ _)); (first | (k_unfold; (try dsimp only)) | (walk1 <;> (try dsimp only)))) | fail "no step"))
theorem seg8c {s0 : Shared} {K : Cst} {x : Fx} {A : Around} {X : List Addr} {stb : List (Addr × Obj)} {t1 t2 : Int} {b1 b2 : List BH} {v : Vars} {al pu : Int} {ta tp : Tok} {spI : List (List Int)} {spL : List Int} {tuI : List (List Int)} {tuL tried : List Int} {xj : Option Value}
    {spl tul : Addr} {svs tvs lvs uvs trv : List Value} {k1 k2 k3 k4 k5 : Nat} {oj : Obj} {s : Shared} {Q : Flow → Shared → Prop}
    (LA : LawAt K x A) {an : Nat} (hb : b2.length = an) (han : 1 ≤ an ∧ an < 500) (hal : al = (an : Int)) (ht : t2 = pu) (P : Plain x spI spL tuI tuL)
    {st0 st1 : List Stmt} (hst0 : st0 = (forBody 10 (bodyAt (hd1.heap_39 K.w.params) 557)).drop 6) (hst1 : st1 = (forBody 10 (bodyAt (hd1.heap_39 K.w.params) 557)).drop 7)
    (S : StA s0 K x X stb t1 t2 b1 b2 v al ta pu tp spI spL tuI tuL tried xj spl tul svs tvs lvs uvs trv k1 k2 k3 k4 k5 oj s)
    (k : ∀ s', StA s0 K x X stb t1 t2 b1 b2 v al ta pu tp spI spL tuI tuL tried xj spl tul svs tvs lvs uvs trv k1 k2 k3 k4 k5 oj s' →
      (∀ a ∈ X, a ∉ K.L :: (cells6 x spl tul svs tvs lvs uvs trv k1 k2 k3 k4 k5 oj).map (·.1) → ∀ o, s.heap.get? a = some o → s'.heap.get? a = some o) →
      wpAny (model PySem.Challenge.rw_sv0019_01.row.prog K.w) (A.deeper (lawEnv K.w K.L)) (execs st1 (lawEnv K.w K.L)) Q (fun _ _ => False) s') :
    wpAny (model PySem.Challenge.rw_sv0019_01.row.prog K.w) (A.deeper (lawEnv K.w K.L)) (execs st0 (lawEnv K.w K.L)) Q (fun _ _ => False) s := by
  subst hst0
  subst hst1
  revert k
  obtain ⟨w, g, c, L, D, q, e1, de1, L1, e2, de2, L2⟩ := K
  obtain ⟨PN, f, sp, tu, tr, cj, cd, cs, lr, l0, od, os, rts, rk, rows, tn, tm, te, td⟩ := x
  obtain ⟨hr, hfr, XK, ⟨p₁, loose, mean, mg, mb, T⟩, ok, hf, ff, HFs, ⟨sm1, sm2, sm3⟩, hq, hrows, hod, hos, ⟨ad1, ad2, ad3⟩⟩ := LA
  obtain ⟨vt, vx, vkind, vkey, vrow, vforced, vbegun, vpopped, vheaps, vsaid⟩ := v
  dsimp only at *
  subst ht
  subst hal
  subst ad1 ad2 ad3
  obtain ⟨hd0, dp0, fr0, gd0, un0⟩ := A
  obtain rfl : hd0 = none := hr.hd
  refine' with_lookup (K := hd1.heap_39 w.params) (f := 557) ?ho ?_
  case ho => k_is
  intro hB hS
  unfold lawEnv
  rw [hB, hS]
  dsimp only [forBody, ifThen, ifElse, List.getElem?_cons_succ, List.getElem?_cons_zero, List.drop_succ_cons, List.drop_zero]
  intro k
  clear hB hS
  obtain ⟨G, nsp, isp, ntu, itu, itr, hj, nd, fx, nro⟩ := S
  have F := G.fr
  unfold lawMap at F
  obtain ⟨⟨a1, a2, a3, a4, a5⟩, ⟨a6, a7, a8, a9⟩, ⟨a10, a11, a12⟩, ⟨a13, a14⟩, a15⟩ := nodup6 nd
  obtain ⟨⟨c1, c2, c3, c4, c5⟩, ⟨c6, c7, c8, c9, c10⟩, ⟨c11, c12, c13, c14, c15, c16⟩⟩ := apart93 G fx
  dsimp only at a1 a2 a3 a4 a5 a6 a7 a8 a9 a10 a11 a12 a13 a14 a15 c1 c2 c3 c4 c5 c6 c7 c8 c9 c10 c11 c12 c13 c14 c15 c16
  have N0 := G.news _ fx
  obtain ⟨own, N, hoff, rb, rn⟩ := rebase2 G.fr N0
  simp only [cells6, fix3] at hoff
  simp only [cells6, fix3, List.cons_append, List.nil_append] at N
  have O0 : Wd w g := ⟨XK, _, _, _, _, _, T⟩
  (walk1; (try dsimp only))
  walk_at "bf w8"
  refine fil_len (h₀ := c) G.on (hr.down 143).deeper G.f2 (by omega) ?_
  intro u1 h1 tk1 M1
  have G1 := G.call0 (tk' := tk1) M1
  have F1 := fr_mod0 F M1
  have N1 := news_mod0 N M1
  clear F N
  walk_at "bf w8"
  refine fil_cur (h₀ := c) G1.on (hr.down 143).deeper G1.f2 (by omega) ?_
  intro u2 h2 tk2 M2
  have G2 := G1.call0 (tk' := tk2) M2
  have F2 := fr_mod0 F1 M2
  have N2 := news_mod0 N1 M2
  clear F1 N1
  walk_at "bf w8"
  refine fil_added (h₀ := c) G2.on (hr.down 143).deeper G2.f2 ?_
  intro u3 h3 tk3 M3
  have G3 := G2.call0 (tk' := tk3) M3
  have F3 := fr_mod0 F2 M3
  have N3 := news_mod0 N2 M3
  clear F2 N2
  walk_at "bf w8"
  rename Fr _ _ _ _ => F6
  rename News _ _ _ _ => N6
  refine ke_ne_ints (News.isList N6 (.tail _ (.head _))) (News.isList N6 (.head _)) (.cons _ _ (.cons _ _ (.cons _ _ .nil))) (.cons _ _ (.cons _ _ (.cons _ _ .nil))) (Nat.lt_of_le_of_lt (Nat.add_le_add_left (by decide) _) ((hr.down 142).deeper).units) ?_
  rw [hb]
  simp only [decide_true, Bool.not_true]
  walk_at "bf w8"
  rename Fr _ _ _ _ => F7
  rename News _ _ _ _ => N7
  have M7 := rb _ _ F7 (news_sub N7 (by walk_at "bf sub"))
  have G7 := fun tk0 => G.walk (tk' := tk0) M7 F7 (news_sub N7 (by unfold cells6; walk_at "bf sub")) rfl
  exact k _ ⟨G7 _, nsp, isp, ntu, itu, itr, hj, nd, fx, nro⟩ (fun a ha hn o ho => M7 a o hn ho)
end
section
local macro_rules | `(tactic| walk_at "bf sub") => `(tactic| (repeat (first | exact List.Sublist.refl _ | exact List.nil_sublist _ | refine List.Sublist.cons₂ _ ?_ | refine List.Sublist.cons _ ?_)))
local macro_rules | `(tactic| walk_at "bf w9") => `(tactic| repeat' (first | ((fail_if_success (with_reducible show wpAny _ _ (getMethod (Value.ref _) _ _) _ _ _)); (fail_if_success (with_reducible show wpAny _ _ (call (Value.ref _) _) _ _ _)); (fail_if_success (with_reducible show wpAny _ _ (subscriptTail _ _ (Value.ref _) (Value.ref _)) _ _ _)); (first | (k_unfold; (try dsimp only)) | (walk1 <;> (try dsimp only)))) | fail "no step"))
theorem seg8d {s0 : Shared} {K : Cst} {x : Fx} {A : Around} {X : List Addr} {stb : List (Addr × Obj)} {t1 t2 : Int} {b1 b2 : List BH} {v : Vars} {al pu : Int} {ta tp tky : Tok} {spI : List (List Int)} {spL : List Int} {tuI : List (List Int)} {tuL tried : List Int} {xj : Option Value}
    {spl tul : Addr} {svs tvs lvs uvs trv : List Value} {k1 k2 k3 k4 k5 : Nat} {oj : Obj} {s : Shared} {Q : Flow → Shared → Prop} {an j : Nat} {Dh ra : Addr} {hys rvs : List Value} {hk rrk : Nat}
    (LA : LawAt K x A) (hal : al = (an : Int)) (hv : v.key = some (.str ⟨#[97 + j]⟩ tky) ∧ v.row = some (.ref ra) ∧ v.heaps = some (.ref Dh)) (hj5 : j < 5) (P : Plain x spI spL tuI tuL) (hrw : x.rows = rowsAt x.PN K.D.nh K.D.bits)
    (r2 : rowsOf b2 = (win (heapsOf K.D.est (tuI ++ [tuL])) an).map (rowH x.rows)) (han : 1 ≤ an ∧ an ≤ (heapsOf K.D.est (tuI ++ [tuL])).length) (hDh : (Dh, listO hys hk) ∈ stb) (hNh : Nest (fun a o => (a, o) ∈ stb) hys (heapsOf K.D.est (tuI ++ [tuL]))) (hrow : (ra, listO rvs rrk) ∈ stb) (hri : IntsAre rvs (x.rows.getD j []))
    {st0 st1 : List Stmt} (hst0 : st0 = (forBody 10 (bodyAt (hd1.heap_39 K.w.params) 557)).drop 7) (hst1 : st1 = [])
    (S : StA s0 K x X stb t1 t2 b1 b2 v al ta pu tp spI spL tuI tuL tried xj spl tul svs tvs lvs uvs trv k1 k2 k3 k4 k5 oj s)
    (k : ∀ v' s', StA s0 K x X stb t1 t2 b1 b2 v' al ta pu tp spI spL tuI tuL tried xj spl tul svs tvs lvs uvs trv k1 k2 k3 k4 k5 oj s' →
      (∀ a ∈ X, a ∉ K.L :: (cells6 x spl tul svs tvs lvs uvs trv k1 k2 k3 k4 k5 oj).map (·.1) → ∀ o, s.heap.get? a = some o → s'.heap.get? a = some o) → Q .next s') :
    wpAny (model PySem.Challenge.rw_sv0019_01.row.prog K.w) (A.deeper (lawEnv K.w K.L)) (execs st0 (lawEnv K.w K.L)) Q (fun _ _ => False) s := by
  subst hst0
  subst hst1
  revert k
  obtain ⟨w, g, c, L, D, q, e1, de1, L1, e2, de2, L2⟩ := K
  obtain ⟨PN, f, sp, tu, tr, cj, cd, cs, lr, l0, od, os, rts, rk, rows, tn, tm, te, td⟩ := x
  obtain ⟨hr, hfr, XK, ⟨p₁, loose, mean, mg, mb, T⟩, ok, hf, ff, HFs, ⟨sm1, sm2, sm3⟩, hq, hrows, hod, hos, ⟨ad1, ad2, ad3⟩⟩ := LA
  obtain ⟨vt, vx, vkind, vkey, vrow, vforced, vbegun, vpopped, vheaps, vsaid⟩ := v
  dsimp only at *
  subst hal
  subst hrw
  obtain ⟨rfl, rfl, rfl⟩ := hv
  subst ad1 ad2 ad3
  obtain ⟨hd0, dp0, fr0, gd0, un0⟩ := A
  obtain rfl : hd0 = none := hr.hd
  refine' with_lookup (K := hd1.heap_39 w.params) (f := 557) ?ho ?_
  case ho => k_is
  intro hB hS
  unfold lawEnv
  rw [hB, hS]
  dsimp only [forBody, ifThen, ifElse, List.getElem?_cons_succ, List.getElem?_cons_zero, List.drop_succ_cons, List.drop_zero]
  intro k
  clear hB hS
  obtain ⟨G, nsp, isp, ntu, itu, itr, hj, nd, fx, nro⟩ := S
  have F := G.fr
  unfold lawMap at F
  have N := G.news _ fx
  simp only [cells6, fix3, List.cons_append, List.nil_append] at N
  obtain ⟨z1, z2, z3, z4⟩ := P
  have O0 : Wd w g := ⟨XK, _, _, _, _, _, T⟩
  have few := heaps_few (n := D.est) z3 fun l hl => (z4 l hl).1
  have hyl : hys.length = (heapsOf D.est (tuI ++ [tuL])).length := hNh.len
  walk_at "bf w9"
  refine meth_check (h₀ := c) G.on G.f2 ?_
  walk_at "bf w9"
  refine wpAny_call ?_
  refine check_fil (h₀ := c) (hs := spreadOf PN j D.nh) G.on (hr.down 99).deeper ok G.f2 hf ff (HFs j D.nh _ hj5 (by omega)) (by simp [spreadOf]) G.tab ?_
  intro s1 A1 T1
  rw [told_eq ok.bits r2 (spread_take (d := D.nh) (Nat.le_refl _)) hj5]
  have G1 := (G.call0 (Mod.refl [] _)).callT A1 T1
  have fix4 : ∀ p ∈ [((L + 1 + 1 + 1 : Nat), od), ((L + 1 : Nat), os), (lr, listO rts rk), (Dh, listO hys hk)], p ∈ stb := fun p hp => by
    rcases List.mem_append.mp (show p ∈ [((L + 1 + 1 + 1 : Nat), od), ((L + 1 : Nat), os), (lr, listO rts rk)] ++ [(Dh, listO hys hk)] from hp) with hp | hp
    · exact fx p hp
    · rw [List.mem_singleton.mp hp]; exact hDh
  have N0 := G1.news _ fix4
  obtain ⟨own, N1, hoff, rb, rn⟩ := rebase2 G1.fr N0
  have F1 := G1.fr
  unfold lawMap at F1
  simp only [cells6] at hoff
  simp only [cells6, List.cons_append, List.nil_append] at N1
  (try dsimp only at F1 N1)
  clear F N
  obtain ⟨told, hT⟩ : ∃ b, b = toldP (win (heapsOf D.est (tuI ++ [tuL])) an) (rowsAt PN D.nh D.bits) ((rowsAt PN D.nh D.bits).getD j []) := ⟨_, rfl⟩
  rw [← hT]
  walk_at "bf w9"
  rename Fr _ _ _ _ => F3
  rename News _ _ _ _ => N3
  have M3 := rb _ _ F3 (news_sub N3 (by walk_at "bf sub"))
  have hrr : (rowsAt PN D.nh D.bits).length = 5 := by simp [rowsAt]
  refine slice_neg (h := _) rfl (N3 (Dh, listO hys hk) (by k_mem)).1 (by rw [hyl]; exact han) (by omega) ?_
  intro Ds h5 M5 nDs hDs
  (try dsimp only)
  have F4 := fr_mod0 F3 M5
  have N4 := news_add (news_mod0 N3 M5) hDs (fr_new F3 nDs)
  have hN2 : Nest (fun a o => h5.get? a = some o) (hys.drop (hys.length - an)) (win (heapsOf D.est (tuI ++ [tuL])) an) := by
    unfold win
    rw [hyl]
    exact (hNh.mono fun a o z => M5 _ _ (fun z => nomatch z) (G1.stabM M3 z)).drop _
  clear F3 N3
  walk_at "bf w9"
  refine wpAny_call ?_
  refine told_spec (heaps := win (heapsOf D.est (tuI ++ [tuL])) an) (rows := rowsAt PN D.nh D.bits) (row := (rowsAt PN D.nh D.bits).getD j []) (Wd.keeps O0 F4.keep) (hr.down 146).deeper hDs hN2 (N4 (lr, listO rts rk) (by k_mem)).1 (nro.mono fun a o z => M5 _ _ (fun z => nomatch z) (G1.stabM M3 z)) (M5 _ _ (fun z => nomatch z) (G1.stabM M3 hrow)) hri (fun hp hh jj hjj => by rw [hrr]; exact heaps_in (fun l hl => (z4 l hl).2) hp (List.mem_of_mem_drop hh) jj hjj) (by rw [win_len han.2]; omega) (fun l hl => Nat.lt_trans (heaps_el (fun l hl => (z4 l hl).1) (List.mem_of_mem_drop hl)) (by decide)) (by rw [hrr]; decide) (rows_len sm1) (row_len sm1) ?_
  intro h6 tk6 M6
  (try dsimp only at M6)
  rw [← hT]
  have F6 := fr_mod0 F4 M6
  have N6 := news_mod0 N4 M6
  clear F4 N4
  walk_at "bf w9"
  · rename (_ != _) = true => hcc
    simp at hcc
  · have M7 := rb _ _ F6 (news_sub N6 (by walk_at "bf sub"))
    have F8 := canonF (base := Fx.base ⟨PN, f, sp, tu, tr, L + 1 + 1 + 1 + 1, L + 1 + 1 + 1, L + 1, lr, l0, od, os, rts, rk, rowsAt PN D.nh D.bits, tn, tm, te, td⟩ ⟨w, g, c, L, D, q, e1, de1, L1, e2, de2, L2⟩) F6 rfl rfl (fun y y1 y2 y3 y4 y5 y6 y7 y8 y9 y10 y11 y12 => by simp only [if_neg y1, if_neg y2, if_neg y3, if_neg y4, if_neg y5, if_neg y6, if_neg y7, if_neg y8, if_neg y9, if_neg y10, if_neg y11, if_neg y12])
    have G7 := fun tk0 => G1.walk (tk' := tk0) (cells' := [(sp, listO (svs ++ [.ref spl]) k1), (spl, listO lvs k2), (tu, listO (tvs ++ [.ref tul]) k3), (tul, listO uvs k4), (tr, listO trv k5), (L + 1 + 1 + 1 + 1, oj)]) M7 F8 (news_sub N6 (by walk_at "bf sub")) rfl
    exact k _ _ ⟨G7 _, nsp, isp, ntu, itu, itr, hj, nd, fx, nro⟩ (fun a ha hn o ho => M7 a o hn (A1.mod _ _ (fun z => G.ap _ (List.mem_singleton.mp z ▸ .head _) ha) ho))
end
section
local macro_rules | `(tactic| walk_at "bf i2") => `(tactic| repeat' (first | ((fail_if_success (with_reducible show wpAny _ _ (execs (PySem.Stmt.If (PySem.Expr.BoolOp _ _ _) _ _ _ :: _) _) _ _ _)); (fail_if_success (with_reducible show wpAny _ _ (execs (PySem.Stmt.Expr _ _ :: _) _) _ _ _)); (fail_if_success (with_reducible show wpAny _ _ (execs (PySem.Stmt.Assign _ _ _ :: PySem.Stmt.Try _ _ _ _ _ :: _) _) _ _ _)); (first | (k_unfold; (try dsimp only)) | (walk1 <;> (try dsimp only)))) | fail "no step"))
theorem StA.tok {s0 : Shared} {K : Cst} {x : Fx} {X : List Addr} {stb : List (Addr × Obj)} {t1 t2 : Int} {b1 b2 : List BH} {v : Vars} {al : Int} {ta : Tok} {pu : Int} {tp : Tok} {spI : List (List Int)} {spL : List Int} {tuI : List (List Int)} {tuL tried : List Int} {xj : Option Value}
    {spl tul : Addr} {svs tvs lvs uvs trv : List Value} {k1 k2 k3 k4 k5 : Nat} {oj : Obj} {s : Shared} (S : StA s0 K x X stb t1 t2 b1 b2 v al ta pu tp spI spL tuI tuL tried xj spl tul svs tvs lvs uvs trv k1 k2 k3 k4 k5 oj s) (tk : Nat) :
    StA s0 K x X stb t1 t2 b1 b2 v al ta pu tp spI spL tuI tuL tried xj spl tul svs tvs lvs uvs trv k1 k2 k3 k4 k5 oj { s with toks := tk } :=
  ⟨S.gs.call0 (Mod.refl [] _), S.nsp, S.isp, S.ntu, S.itu, S.itr, S.j, S.nd, S.fix, S.nro⟩
theorem if2 {K : Cst} {x : Fx} {A : Around} {v : Vars} {al pu : Int} {ta tp tkk : Tok} {s : Shared} {Q : Flow → Shared → Prop} {kd : Int}
    (LA : LawAt K x A) (F : Fr K.g K.L s.heap (lawMap (x.base K) v al ta pu tp)) (hv : v.kind = some (.int kd tkk))
    {st0 st1 : List Stmt} (hst0 : st0 = (forBody 10 (bodyAt (hd1.heap_39 K.w.params) 557)).drop 2) (hst1 : st1 = (forBody 10 (bodyAt (hd1.heap_39 K.w.params) 557)).drop 3)
    (h5 : kd < 5 → ∀ (tk : Nat) (Q' : Flow → Shared → Prop), (∀ s', wpAny (model PySem.Challenge.rw_sv0019_01.row.prog K.w) (A.deeper (lawEnv K.w K.L)) (execs st1 (lawEnv K.w K.L)) Q (fun _ _ => False) s' → Q' .next s') → wpAny (model PySem.Challenge.rw_sv0019_01.row.prog K.w) (A.deeper (lawEnv K.w K.L)) (execs (ifThen (forBody 10 (bodyAt (hd1.heap_39 K.w.params) 557)) 2) (lawEnv K.w K.L)) Q' (fun _ _ => False) { s with toks := tk })
    (e5 : kd = 5 → ∀ (tk : Nat) (Q' : Flow → Shared → Prop), (∀ s', wpAny (model PySem.Challenge.rw_sv0019_01.row.prog K.w) (A.deeper (lawEnv K.w K.L)) (execs st1 (lawEnv K.w K.L)) Q (fun _ _ => False) s' → Q' .next s') → wpAny (model PySem.Challenge.rw_sv0019_01.row.prog K.w) (A.deeper (lawEnv K.w K.L)) (execs (ifThen (ifElse (forBody 10 (bodyAt (hd1.heap_39 K.w.params) 557)) 2) 0) (lawEnv K.w K.L)) Q' (fun _ _ => False) { s with toks := tk })
    (e6 : kd = 6 → ∀ (tk : Nat) (Q' : Flow → Shared → Prop), (∀ s', wpAny (model PySem.Challenge.rw_sv0019_01.row.prog K.w) (A.deeper (lawEnv K.w K.L)) (execs st1 (lawEnv K.w K.L)) Q (fun _ _ => False) s' → Q' .next s') → wpAny (model PySem.Challenge.rw_sv0019_01.row.prog K.w) (A.deeper (lawEnv K.w K.L)) (execs (ifThen (ifElse (ifElse (forBody 10 (bodyAt (hd1.heap_39 K.w.params) 557)) 2) 0) 0) (lawEnv K.w K.L)) Q' (fun _ _ => False) { s with toks := tk })
    (e7 : 6 < kd → ∀ (tk : Nat) (Q' : Flow → Shared → Prop), (∀ s', wpAny (model PySem.Challenge.rw_sv0019_01.row.prog K.w) (A.deeper (lawEnv K.w K.L)) (execs st1 (lawEnv K.w K.L)) Q (fun _ _ => False) s' → Q' .next s') → wpAny (model PySem.Challenge.rw_sv0019_01.row.prog K.w) (A.deeper (lawEnv K.w K.L)) (execs (ifElse (ifElse (ifElse (forBody 10 (bodyAt (hd1.heap_39 K.w.params) 557)) 2) 0) 0) (lawEnv K.w K.L)) Q' (fun _ _ => False) { s with toks := tk }) :
    wpAny (model PySem.Challenge.rw_sv0019_01.row.prog K.w) (A.deeper (lawEnv K.w K.L)) (execs st0 (lawEnv K.w K.L)) Q (fun _ _ => False) s := by
  subst hst0
  subst hst1
  revert h5 e5 e6 e7
  obtain ⟨w, g, c, L, D, q, e1, de1, L1, e2, de2, L2⟩ := K
  obtain ⟨PN, f, sp, tu, tr, cj, cd, cs, lr, l0, od, os, rts, rk, rows, tn, tm, te, td⟩ := x
  obtain ⟨hr, hfr, XK, ⟨p₁, loose, mean, mg, mb, T⟩, ok, hf, ff, HFs, ⟨sm1, sm2, sm3⟩, hq, hrows, hod, hos, ⟨ad1, ad2, ad3⟩⟩ := LA
  obtain ⟨vt, vx, vkind, vkey, vrow, vforced, vbegun, vpopped, vheaps, vsaid⟩ := v
  dsimp only at *
  subst hv
  subst ad1 ad2 ad3
  obtain ⟨hd0, dp0, fr0, gd0, un0⟩ := A
  obtain rfl : hd0 = none := hr.hd
  refine' with_lookup (K := hd1.heap_39 w.params) (f := 557) ?ho ?_
  case ho => k_is
  intro hB hS
  unfold lawEnv
  rw [hB, hS]
  dsimp only [forBody, ifThen, ifElse, List.getElem?_cons_succ, List.getElem?_cons_zero, List.drop_succ_cons, List.drop_zero]
  intro h5 e5 e6 e7
  clear hB hS
  have N : News g L s.heap [] := News.nil
  unfold lawMap at F
  by_cases c5 : kd < 5
  · walk_at "bf i2"
    refine h5 c5 _ _ (fun s' hs => ?_)
    first | exact hs | (refine wpAny_execs_nil ?_; first | exact hs | (refine wpAny_execs_nil ?_; first | exact hs | (refine wpAny_execs_nil ?_; exact hs)))
  by_cases c6 : kd = 5
  · walk_at "bf i2"
    refine e5 c6 _ _ (fun s' hs => ?_)
    first | exact hs | (refine wpAny_execs_nil ?_; first | exact hs | (refine wpAny_execs_nil ?_; first | exact hs | (refine wpAny_execs_nil ?_; exact hs)))
  by_cases c7 : kd = 6
  · walk_at "bf i2"
    refine e6 c7 _ _ (fun s' hs => ?_)
    first | exact hs | (refine wpAny_execs_nil ?_; first | exact hs | (refine wpAny_execs_nil ?_; first | exact hs | (refine wpAny_execs_nil ?_; exact hs)))
  · walk_at "bf i2"
    refine e7 (by omega) _ _ (fun s' hs => ?_)
    first | exact hs | (refine wpAny_execs_nil ?_; first | exact hs | (refine wpAny_execs_nil ?_; first | exact hs | (refine wpAny_execs_nil ?_; exact hs)))
end
section
structure Inv (K : Cst) (x : Fx) (m : Nat) (b1 b2 : List BH) (t1 t2 pu : Int) (an : Nat) (spI : List (List Int)) (spL : List Int) (tuI : List (List Int)) (tuL tried : List Int) : Prop where
  r1 : rowsOf b1 = (heapsOf K.D.est (spI ++ [spL])).map (rowH x.rows)
  r2 : rowsOf b2 = (win (heapsOf K.D.est (tuI ++ [tuL])) an).map (rowH x.rows)
  an1 : 1 ≤ an ∧ an ≤ (heapsOf K.D.est (tuI ++ [tuL])).length
  anq : (an : Int) ≤ K.q
  t1e : t1 = pu
  t2e : t2 = pu
  s1 : spI.length ≤ m
  s2 : ∀ l ∈ spI ++ [spL], l.length ≤ m ∧ ∀ j ∈ l, 0 ≤ j ∧ j < 5
  s3 : tuI.length ≤ m
  s4 : ∀ l ∈ tuI ++ [tuL], l.length ≤ m ∧ ∀ j ∈ l, 0 ≤ j ∧ j < 5
  tr5 : tried.length = 5
  trt : ∀ j : Nat, j < 5 → tried[j]? = some 1 → toldP (heapsOf K.D.est (spI ++ [spL])) x.rows (x.rows.getD j []) = true
theorem Inv.plain {K : Cst} {x : Fx} {m : Nat} {b1 b2 : List BH} {t1 t2 pu : Int} {an : Nat} {spI : List (List Int)} {spL : List Int} {tuI : List (List Int)} {tuL tried : List Int} (I : Inv K x m b1 b2 t1 t2 pu an spI spL tuI tuL tried) (h : m < 20) : Plain x spI spL tuI tuL :=
  ⟨Nat.lt_of_le_of_lt I.s1 h, fun l hl => ⟨Nat.lt_of_le_of_lt (I.s2 l hl).1 h, (I.s2 l hl).2⟩, Nat.lt_of_le_of_lt I.s3 h, fun l hl => ⟨Nat.lt_of_le_of_lt (I.s4 l hl).1 h, (I.s4 l hl).2⟩⟩
theorem Inv.l1 {K : Cst} {x : Fx} {m : Nat} {b1 b2 : List BH} {t1 t2 pu : Int} {an : Nat} {spI : List (List Int)} {spL : List Int} {tuI : List (List Int)} {tuL tried : List Int} (I : Inv K x m b1 b2 t1 t2 pu an spI spL tuI tuL tried) : b1.length = (heapsOf K.D.est (spI ++ [spL])).length := by
  have := congrArg List.length I.r1
  simpa [rowsOf] using this
theorem Inv.l2 {K : Cst} {x : Fx} {m : Nat} {b1 b2 : List BH} {t1 t2 pu : Int} {an : Nat} {spI : List (List Int)} {spL : List Int} {tuI : List (List Int)} {tuL tried : List Int} (I : Inv K x m b1 b2 t1 t2 pu an spI spL tuI tuL tried) : b2.length = an := by
  have := congrArg List.length I.r2
  rw [List.length_map, win_len I.an1.2] at this
  simpa [rowsOf] using this
def LoopV (s0 : Shared) (K : Cst) (x : Fx) (Xs : List Addr) (m : Nat) (pv : Vars → Prop) (s : Shared) : Prop :=
  ∃ stb t1 t2 b1 b2 v an ta pu tp spI spL tuI tuL tried xj spl tul svs tvs lvs uvs trv k1 k2 k3 k4 k5 oj, pv v ∧ (∀ a ∈ Xs, a ∉ [K.L, x.sp, spl, x.tu, tul, x.tr, x.cj]) ∧ Inv K x m b1 b2 t1 t2 pu an spI spL tuI tuL tried ∧
    StA s0 K x (Xs ++ [K.L, x.sp, spl, x.tu, tul, x.tr, x.cj]) stb t1 t2 b1 b2 v (an : Nat) ta pu tp spI spL tuI tuL tried xj spl tul svs tvs lvs uvs trv k1 k2 k3 k4 k5 oj s
theorem turn_tail {s0 : Shared} {K : Cst} {x : Fx} {A : Around} {Xs : List Addr} {stb : List (Addr × Obj)} {t1 t2 : Int} {b1 b2 : List BH} {v : Vars} {pu : Int} {ta tp tb tky : Tok} {spI : List (List Int)} {spL : List Int} {tuI : List (List Int)} {tuL tried : List Int} {xj : Option Value}
    {spl tul : Addr} {svs tvs lvs uvs trv : List Value} {k1 k2 k3 k4 k5 : Nat} {oj : Obj} {s : Shared} {Q : Flow → Shared → Prop} {m an0 an' B0 j : Nat} {ra : Addr} {rvs : List Value} {rrk : Nat}
    (LA : LawAt K x A) (hrw : x.rows = rowsAt x.PN K.D.nh K.D.bits) (hv : v.begun = some (.int (B0 : Nat) tb) ∧ v.key = some (.str ⟨#[97 + j]⟩ tky) ∧ v.row = some (.ref ra)) (hj5 : j < 5) (hB0 : B0 ≤ (heapsOf K.D.est (tuI ++ [tuL])).length)
    (han : an' = min (an0 + ((heapsOf K.D.est (tuI ++ [tuL])).length - B0)) K.q.toNat) (I : Inv K x m b1 b2 t1 t2 pu an' spI spL tuI tuL tried) (hm : m < 20) (hof : ∀ a ∈ Xs, a ∉ [K.L, x.sp, spl, x.tu, tul, x.tr, x.cj]) (hrow : (ra, listO rvs rrk) ∈ stb) (hri : IntsAre rvs (x.rows.getD j []))
    (S : StA s0 K x (Xs ++ [K.L, x.sp, spl, x.tu, tul, x.tr, x.cj]) stb t1 t2 b1 b2 v (an0 : Nat) ta pu tp spI spL tuI tuL tried xj spl tul svs tvs lvs uvs trv k1 k2 k3 k4 k5 oj s)
    {st0 : List Stmt} (hst0 : st0 = (forBody 10 (bodyAt (hd1.heap_39 K.w.params) 557)).drop 3)
    (k : ∀ s', LoopV s0 K x Xs m (fun _ => True) s' → (∀ a ∈ Xs, ∀ o, s.heap.get? a = some o → s'.heap.get? a = some o) → Q .next s') :
    wpAny (model PySem.Challenge.rw_sv0019_01.row.prog K.w) (A.deeper (lawEnv K.w K.L)) (execs st0 (lawEnv K.w K.L)) Q (fun _ _ => False) s := by
  have P := I.plain hm
  have keep : ∀ {s s' : Shared}, (∀ a ∈ Xs ++ [K.L, x.sp, spl, x.tu, tul, x.tr, x.cj], a ∉ K.L :: (cells6 x spl tul svs tvs lvs uvs trv k1 k2 k3 k4 k5 oj).map (·.1) → ∀ o, s.heap.get? a = some o → s'.heap.get? a = some o) → ∀ a ∈ Xs, ∀ o, s.heap.get? a = some o → s'.heap.get? a = some o := fun h a ha o ho => h a (List.mem_append_left _ ha) (hof a ha) o ho
  obtain ⟨st5, hst5⟩ : ∃ z, z = (forBody 10 (bodyAt (hd1.heap_39 K.w.params) 557)).drop 5 := ⟨_, rfl⟩
  obtain ⟨st6, hst6⟩ : ∃ z, z = (forBody 10 (bodyAt (hd1.heap_39 K.w.params) 557)).drop 6 := ⟨_, rfl⟩
  obtain ⟨st7, hst7⟩ : ∃ z, z = (forBody 10 (bodyAt (hd1.heap_39 K.w.params) 557)).drop 7 := ⟨_, rfl⟩
  refine seg8a LA rfl hv.1 hB0 P hst0 hst5 S ?_
  intro v1 ta1 stb1 Dh hys hk s1 e1 e2 e3 e4 e5 up hDh hNh S1 kp1
  refine seg8b LA I.l1 I.t1e P hst5 hst6 S1 ?_
  intro s2 S2 kp2
  refine seg8c LA (an := an') I.l2 ⟨I.an1.1, Nat.lt_of_le_of_lt I.an1.2 (heaps_few P.z3 fun l hl => (P.z4 l hl).1)⟩ (by rw [han]) I.t2e P hst6 hst7 S2 ?_
  intro s3 S3 kp3
  refine seg8d LA (an := an') (by rw [han]) ⟨e3.trans hv.2.1, e4.trans hv.2.2, e5⟩ hj5 P hrw I.r2 I.an1 hDh hNh (up _ hrow) hri hst7 rfl S3 ?_
  intro v4 s4 S4 kp4
  rw [← han] at S4
  exact k s4 ⟨stb1, t1, t2, b1, b2, v4, an', ta1, pu, tp, spI, spL, tuI, tuL, tried, xj, spl, tul, svs, tvs, lvs, uvs, trv, k1, k2, k3, k4, k5, oj, trivial, hof, I, S4⟩ (fun a ha o ho => keep kp4 a ha o (keep kp3 a ha o (keep kp2 a ha o (keep kp1 a ha o ho))))
theorem told_mono {rows : List (List Int)} {row : List Int} {H H' : List (List Int)} (h : ∀ hp ∈ H, ∃ hp' ∈ H', ∀ j ∈ hp, j ∈ hp') (t : toldP H rows row = true) : toldP H' rows row = true := by
  unfold toldP at t ⊢
  obtain ⟨hp, hh, ha⟩ := List.any_eq_true.mp t
  obtain ⟨hp', hh', hs⟩ := h hp hh
  refine List.any_eq_true.mpr ⟨hp', hh', ?_⟩
  rw [List.all_eq_true] at ha ⊢
  intro c hc
  have := ha c hc
  rw [List.any_eq_true] at this ⊢
  obtain ⟨y, hy, e⟩ := this
  obtain ⟨j, hj, hy⟩ := List.mem_flatMap.mp hy
  exact ⟨y, List.mem_flatMap.mpr ⟨j, hs j hj, hy⟩, e⟩
theorem told_of_mem {rows : List (List Int)} {H : List (List Int)} {hp : List Int} {j : Nat} (hh : hp ∈ H) (hj : (j : Int) ∈ hp) : toldP H rows (rows.getD j []) = true := by
  unfold toldP
  refine List.any_eq_true.mpr ⟨hp, hh, ?_⟩
  rw [List.all_eq_true]
  intro c hc
  rw [List.any_eq_true]
  exact ⟨c, List.mem_flatMap.mpr ⟨(j : Int), hj, by simpa using hc⟩, by simp⟩
theorem step_sub {n : Nat} {H : List (List Int)} {j : Int} (hne : H ≠ []) : ∀ hp ∈ H, ∃ hp' ∈ stepH n H j, ∀ i ∈ hp, i ∈ hp' := by
  intro hp hh
  unfold stepH
  by_cases c : n ≤ (H.getLastD []).length
  · rw [if_pos c]
    exact ⟨hp, List.mem_append_left _ hh, fun _ h => h⟩
  · rw [if_neg c]
    have e : H.dropLast ++ [H.getLastD []] = H := by
      rw [List.getLastD_eq_getLast?, List.getLast?_eq_some_getLast hne]
      exact List.dropLast_concat_getLast hne
    rw [← e] at hh
    rcases List.mem_append.mp hh with hh | hh
    · exact ⟨hp, List.mem_append_left _ hh, fun _ h => h⟩
    · rw [List.mem_singleton.mp hh]
      exact ⟨_, List.mem_append_right _ (.head _), fun i hi => List.mem_append_left _ hi⟩
theorem step_mem {n : Nat} {H : List (List Int)} {j : Int} : ∃ hp ∈ stepH n H j, j ∈ hp := by
  unfold stepH
  by_cases c : n ≤ (H.getLastD []).length
  · rw [if_pos c]; exact ⟨[j], List.mem_append_right _ (.head _), .head _⟩
  · rw [if_neg c]; exact ⟨_, List.mem_append_right _ (.head _), List.mem_append_right _ (.head _)⟩
end
section
theorem put_len {n : Nat} (hn : 1 ≤ n) {I : List (List Int)} {l l' : List Int} {j : Int} {b : Bool} (h : l' = (if b then l ++ [j] else l)) : (heapsOf n (I ++ [l])).length ≤ (heapsOf n (I ++ [l'])).length := by
  cases b with
  | false => rw [h]; exact Nat.le_refl _
  | true =>
    rw [h]
    simp only [if_true]
    rw [heaps_put hn]
    unfold stepH
    split
    · rw [List.length_append]; omega
    · rw [List.length_append, List.length_dropLast, List.length_singleton]; omega
theorem put_mono {n : Nat} (hn : 1 ≤ n) {I : List (List Int)} {l l' : List Int} {j : Int} {b : Bool} (h : l' = (if b then l ++ [j] else l)) {rows : List (List Int)} {row : List Int} (t : toldP (heapsOf n (I ++ [l])) rows row = true) : toldP (heapsOf n (I ++ [l'])) rows row = true := by
  cases b with
  | false => rw [h]; exact t
  | true =>
    rw [h]
    simp only [if_true]
    rw [heaps_put hn]
    exact told_mono (step_sub heaps_ne) t
theorem put_told {n : Nat} (hn : 1 ≤ n) {I : List (List Int)} {l l' : List Int} {j : Nat} {fo : Bool} {rows : List (List Int)} (h : l' = (if fo || !toldP (heapsOf n (I ++ [l])) rows (rows.getD j []) then l ++ [(j : Int)] else l)) : toldP (heapsOf n (I ++ [l'])) rows (rows.getD j []) = true := by
  cases hb : fo || !toldP (heapsOf n (I ++ [l])) rows (rows.getD j []) with
  | false =>
    rw [hb] at h
    rw [h]
    simp at hb
    exact hb.2
  | true =>
    rw [hb] at h
    rw [h]
    simp only [if_true]
    rw [heaps_put hn]
    obtain ⟨hp, h1, h2⟩ := step_mem (n := n) (H := heapsOf n (I ++ [l])) (j := (j : Int))
    exact told_of_mem h1 h2
theorem put_small {m : Nat} {I : List (List Int)} {l l' : List Int} {j : Nat} {b : Bool} (hj : j < 5) (h : l' = (if b then l ++ [(j : Int)] else l)) (s : ∀ c ∈ I ++ [l], c.length ≤ m ∧ ∀ i ∈ c, (0 : Int) ≤ i ∧ i < 5) : ∀ c ∈ I ++ [l'], c.length ≤ m + 1 ∧ ∀ i ∈ c, (0 : Int) ≤ i ∧ i < 5 := by
  intro c hc
  rcases List.mem_append.mp hc with hc | hc
  · have := s c (List.mem_append_left _ hc)
    exact ⟨by omega, this.2⟩
  · rw [List.mem_singleton.mp hc, h]
    have := s l (List.mem_append_right _ (.head _))
    cases b with
    | false => exact ⟨Nat.le_succ_of_le this.1, this.2⟩
    | true =>
      simp only [if_true]
      refine ⟨by rw [List.length_append]; exact Nat.succ_le_succ this.1, fun i hi => ?_⟩
      rcases List.mem_append.mp hi with hi | hi
      · exact this.2 i hi
      · rw [List.mem_singleton.mp hi]; omega
theorem push_small {m : Nat} {I : List (List Int)} (s : ∀ c ∈ I, c.length ≤ m ∧ ∀ i ∈ c, (0 : Int) ≤ i ∧ i < 5) : ∀ c ∈ I ++ [[]], c.length ≤ m + 1 ∧ ∀ i ∈ c, (0 : Int) ≤ i ∧ i < 5 := fun c hc => by
  rcases List.mem_append.mp hc with hc | hc
  · exact ⟨Nat.le_succ_of_le (s c hc).1, (s c hc).2⟩
  · rw [List.mem_singleton.mp hc]; exact ⟨Nat.zero_le _, fun _ h => nomatch h⟩
theorem win_pop {H : List (List Int)} {an : Nat} (h : 1 ≤ an ∧ an ≤ H.length) : (win H an).tail = win H (an - 1) := by
  unfold win
  rw [List.tail_drop]
  congr 1
  omega
theorem turn {s0 : Shared} {K : Cst} {x : Fx} {A : Around} {Xs : List Addr} {s : Shared} {Q : Flow → Shared → Prop} {m ti : Nat} {n : Int} {tt tx : Tok}
    (LA : LawAt K x A) (hrw : x.rows = rowsAt x.PN K.D.nh K.D.bits) (hti : ti < 10) (hm : m < 18)
    (LV : LoopV s0 K x Xs m (fun v => v.t = some (.int (ti : Nat) tt) ∧ v.x = some (.int n tx)) s)
    {st0 : List Stmt} (hst0 : st0 = forBody 10 (bodyAt (hd1.heap_39 K.w.params) 557))
    (k : ∀ s', LoopV s0 K x Xs (m + 1) (fun _ => True) s' → (∀ a ∈ Xs, ∀ o, s.heap.get? a = some o → s'.heap.get? a = some o) → Q .next s') :
    wpAny (model PySem.Challenge.rw_sv0019_01.row.prog K.w) (A.deeper (lawEnv K.w K.L)) (execs st0 (lawEnv K.w K.L)) Q (fun _ _ => False) s := by
  obtain ⟨stb, t1, t2, b1, b2, v, an, ta, pu, tp, spI, spL, tuI, tuL, tried, xj, spl, tul, svs, tvs, lvs, uvs, trv, k1, k2, k3, k4, k5, oj, hv, hof, I, S⟩ := LV
  have P := I.plain (by omega)
  have hE := LA.ok.est
  have few1 := heaps_few (n := K.D.est) P.z1 fun l hl => (P.z2 l hl).1
  have few3 := heaps_few (n := K.D.est) P.z3 fun l hl => (P.z4 l hl).1
  have hq := LA.q
  obtain ⟨st2, hst2⟩ : ∃ z, z = (forBody 10 (bodyAt (hd1.heap_39 K.w.params) 557)).drop 2 := ⟨_, rfl⟩
  obtain ⟨st3, hst3⟩ : ∃ z, z = (forBody 10 (bodyAt (hd1.heap_39 K.w.params) 557)).drop 3 := ⟨_, rfl⟩
  refine seg1 LA hv hti (Nat.lt_trans P.z3 (by decide)) (fun l hl => Nat.lt_trans (P.z4 l hl).1 (by decide)) hst0 hst2 S ?_
  intro j v1 ra rvs rrk fo tk1 tk2 tk3 tk4 oj1 s1 hj5 ej e1 e2 e3 e4 e5 e6 e7 hrow hri S1 kp1
  have keep1 : ∀ a ∈ Xs, ∀ o, s.heap.get? a = some o → s1.heap.get? a = some o := fun a ha o ho => kp1 a (List.mem_append_left _ ha) (hof a ha) o ho
  refine if2 LA S1.gs.fr e3 hst2 hst3 ?h5 ?e5 ?e6 ?e7
  case h5 =>
    intro hk tk Q' hQ'
    obtain ⟨it1, hit1⟩ : ∃ z, z = (ifThen (forBody 10 (bodyAt (hd1.heap_39 K.w.params) 557)) 2).drop 1 := ⟨_, rfl⟩
    obtain ⟨it2, hit2⟩ : ∃ z, z = (ifThen (forBody 10 (bodyAt (hd1.heap_39 K.w.params) 557)) 2).drop 2 := ⟨_, rfl⟩
    obtain ⟨it3, hit3⟩ : ∃ z, z = (ifThen (forBody 10 (bodyAt (hd1.heap_39 K.w.params) 557)) 2).drop 3 := ⟨_, rfl⟩
    generalize hit0 : ifThen (forBody 10 (bodyAt (hd1.heap_39 K.w.params) 557)) 2 = it0
    refine seg2a LA ⟨e6, e5⟩ hrow hri hj5 P hit0.symm hit1 (S1.tok tk) ?_
    intro spL' lvs' k2' s2 hsp S2 kp2
    have P2 : Plain x spI spL' tuI tuL := ⟨P.z1, fun l hl => ⟨Nat.lt_of_le_of_lt (put_small hj5 hsp I.s2 l hl).1 (by omega), (put_small hj5 hsp I.s2 l hl).2⟩, P.z3, P.z4⟩
    refine seg2b LA ⟨e6, e5⟩ hrow hri hj5 P2 rfl I.an1 hit1 hit2 S2 ?_
    intro tuL' uvs' k4' s3 htu S3 kp3
    refine seg3 LA ⟨e6, e3, e4⟩ hj5 P hrw I.r1 I.r2 I.an1 I.anq hsp htu hit2 hit3 S3 ?_
    intro b1' b2' an' s4 r1' ea ea1 ea2 r2' S4 kp4
    refine seg4 LA hj5 I.tr5 hit3 rfl S4 ?_
    intro v5 trv5 k55 tp5 s5 f1 f2 f3 f4 f5 S5 kp5
    refine hQ' s5 ?_
    refine turn_tail (m := m + 1) (an0 := an) (an' := an') (B0 := (heapsOf K.D.est (tuI ++ [tuL])).length) LA hrw ⟨f5.trans e7, f3.trans e4, f4.trans e5⟩ hj5 (put_len hE htu) ea ⟨r1', r2', ⟨ea1, ea2⟩, by omega, by rw [I.t1e], by rw [I.t2e], Nat.le_succ_of_le I.s1, put_small hj5 hsp I.s2, Nat.le_succ_of_le I.s3, put_small hj5 htu I.s4, by rw [List.length_set]; exact I.tr5, ?_⟩ (by omega) hof hrow hri S5 hst3 (fun s' LV kp => k s' LV (fun a ha o ho => kp a ha o (kp5 a (List.mem_append_left _ ha) (hof a ha) o (kp4 a (List.mem_append_left _ ha) o (kp3 a (List.mem_append_left _ ha) (hof a ha) o (kp2 a (List.mem_append_left _ ha) (hof a ha) o (keep1 a ha o ho)))))))
    intro i hi hti'
    by_cases c : j = i
    · subst c
      exact put_told hE hsp
    · rw [List.getElem?_set_ne c] at hti'
      exact put_mono hE hsp (I.trt i hi hti')
  case e5 =>
    intro hk tk Q' hQ'
    generalize hit0 : ifThen (ifElse (forBody 10 (bodyAt (hd1.heap_39 K.w.params) 557)) 2) 0 = it0
    refine push1 LA rfl hof P (by rw [I.l1]; omega) hit0.symm (S1.tok tk) ?_
    intro b1' Dn s2 gr hD S2 kp2
    refine hQ' s2 ?_
    have hof2 : ∀ a ∈ Xs, a ∉ [K.L, x.sp, Dn, x.tu, tul, x.tr, x.cj] := fun a ha z => by
      have h1 := hof a ha
      simp only [List.mem_cons, List.not_mem_nil, or_false, not_or] at z h1
      rcases z with z | z | z | z | z | z | z
      · exact h1.1 z
      · exact h1.2.1 z
      · exact hD a ha z
      · exact h1.2.2.2.1 z
      · exact h1.2.2.2.2.1 z
      · exact h1.2.2.2.2.2.1 z
      · exact h1.2.2.2.2.2.2 z
    refine turn_tail (m := m + 1) (an0 := an) (an' := an) (B0 := (heapsOf K.D.est (tuI ++ [tuL])).length) LA hrw ⟨e7, e4, e5⟩ hj5 (Nat.le_refl _) (by have := I.anq; omega) ⟨by rw [heaps_push]; exact rel_push1 gr I.r1, I.r2, I.an1, I.anq, I.t1e, I.t2e, by rw [List.length_append]; exact Nat.succ_le_succ I.s1, push_small I.s2, Nat.le_succ_of_le I.s3, fun l hl => ⟨Nat.le_succ_of_le (I.s4 l hl).1, (I.s4 l hl).2⟩, I.tr5, fun i hi ht => ?_⟩ (by omega) hof2 (.tail _ hrow) hri S2 hst3 (fun s' LV kp => k s' LV (fun a ha o ho => kp a ha o (kp2 a ha o (keep1 a ha o ho))))
    rw [heaps_push]
    exact told_mono (fun hp hh => ⟨hp, List.mem_append_left _ hh, fun _ z => z⟩) (I.trt i hi ht)
  case e6 =>
    intro hk tk Q' hQ'
    generalize hit0 : ifThen (ifElse (ifElse (forBody 10 (bodyAt (hd1.heap_39 K.w.params) 557)) 2) 0) 0 = it0
    refine push2 LA rfl hof P (by rw [I.l2]; have := I.an1.2; omega) hit0.symm (S1.tok tk) ?_
    intro b2' Dn s2 gr hD S2 kp2
    refine hQ' s2 ?_
    have hof2 : ∀ a ∈ Xs, a ∉ [K.L, x.sp, spl, x.tu, Dn, x.tr, x.cj] := fun a ha z => by
      have h1 := hof a ha
      simp only [List.mem_cons, List.not_mem_nil, or_false, not_or] at z h1
      rcases z with z | z | z | z | z | z | z
      · exact h1.1 z
      · exact h1.2.1 z
      · exact h1.2.2.1 z
      · exact h1.2.2.2.1 z
      · exact hD a ha z
      · exact h1.2.2.2.2.2.1 z
      · exact h1.2.2.2.2.2.2 z
    obtain ⟨an', ea, ea1, ea2, r2'⟩ := rel_push2 gr I.r2 I.an1 I.anq
    rw [← heaps_push] at ea ea2 r2'
    refine turn_tail (m := m + 1) (an0 := an) (an' := an') (B0 := (heapsOf K.D.est (tuI ++ [tuL])).length) LA hrw ⟨e7, e4, e5⟩ hj5 (by rw [heaps_push, List.length_append]; omega) ea ⟨I.r1, r2', ⟨ea1, ea2⟩, by omega, I.t1e, I.t2e, Nat.le_succ_of_le I.s1, fun l hl => ⟨Nat.le_succ_of_le (I.s2 l hl).1, (I.s2 l hl).2⟩, by rw [List.length_append]; exact Nat.succ_le_succ I.s3, push_small I.s4, I.tr5, I.trt⟩ (by omega) hof2 (.tail _ hrow) hri S2 hst3 (fun s' LV kp => k s' LV (fun a ha o ho => kp a ha o (kp2 a ha o (keep1 a ha o ho))))
  case e7 =>
    intro hk tk Q' hQ'
    generalize hit0 : ifElse (ifElse (ifElse (forBody 10 (bodyAt (hd1.heap_39 K.w.params) 557)) 2) 0) 0 = it0
    refine seg7 LA (an := an) rfl I.l2 ⟨I.an1.1, by have := I.anq; omega⟩ hit0.symm rfl (S1.tok tk) ?_
    intro v2 an2 ta2 b2' s2 f1 f2 f3 f4 f5 hc S2 kp2
    refine hQ' s2 ?_
    have hr2 : rowsOf b2' = (win (heapsOf K.D.est (tuI ++ [tuL])) an2).map (rowH x.rows) ∧ 1 ≤ an2 ∧ an2 ≤ an := by
      rcases hc with ⟨c1, c2, c3⟩ | ⟨c1, c2, c3⟩
      · rw [c3, c2, ← c1]; exact ⟨I.r2, by omega, by omega⟩
      · refine ⟨?_, by omega, by omega⟩
        rw [c3, c2, ← win_pop I.an1]
        have := I.r2
        unfold rowsOf at this ⊢
        rw [List.map_tail, this, List.map_tail]
    refine turn_tail (m := m + 1) (an0 := an2) (an' := an2) (B0 := (heapsOf K.D.est (tuI ++ [tuL])).length) LA hrw ⟨f5.trans e7, f3.trans e4, f4.trans e5⟩ hj5 (Nat.le_refl _) (by have := I.anq; omega) ⟨I.r1, hr2.1, ⟨hr2.2.1, Nat.le_trans hr2.2.2 I.an1.2⟩, by have := I.anq; omega, I.t1e, I.t2e, Nat.le_succ_of_le I.s1, fun l hl => ⟨Nat.le_succ_of_le (I.s2 l hl).1, (I.s2 l hl).2⟩, Nat.le_succ_of_le I.s3, fun l hl => ⟨Nat.le_succ_of_le (I.s4 l hl).1, (I.s4 l hl).2⟩, I.tr5, I.trt⟩ (by omega) hof hrow hri S2 hst3 (fun s' LV kp => k s' LV (fun a ha o ho => kp a ha o (kp2 a (List.mem_append_left _ ha) (hof a ha) o (keep1 a ha o ho))))
end
section
theorem forLoopT {prog : Program} {w : World} {A : Around} {s : Shared} {env : Env} {R : Result → Shared → Prop} {elts : List PySem.Expr} {k : Nat} {pos : Pos} {body : List Stmt} {I : Addr} {fp wr : List Addr} {n : Nat} {Pt : Nat → Array Value → Prop} {St : Nat → Heap → Prop} {Mid : Nat → Addr → Heap → Prop}
    (W : WalksT prog w A I fp wr n Pt St Mid) (J : Nat → Shared → Prop) (hst : St 0 s.heap) (h0 : J 0 s)
    (turn : ∀ i T vals s h₂ tk, i < n → Pt i vals → s.heap.get? T = none → h₂.IsTuple T vals → J i s → St (i + 1) h₂ → Mod wr s.heap h₂ →
      wpAny (model prog w) A (assign (.Tuple elts k pos) env (.ref T)) (fun _ s₂ => wpAny (model prog w) A (execs body env) (fun f s₃ => match f with
        | .next | .cont => Back (J (i + 1) s₃) fp h₂ s₃.heap
        | .brk => R (.ok .next) s₃
        | .ret v => R (.ok (.ret v)) s₃) (notedBy (model prog w) A env fun e s' => R (.error e) s') s₂) (notedBy (model prog w) A env fun e s' => R (.error e) s') { s with heap := h₂, toks := tk })
    (done : ∀ s h₂ tk, J n s → Mod wr s.heap h₂ → R (.ok .next) { s with heap := h₂, toks := tk }) :
    codeAny (model prog w) A (.forLoop (.Tuple elts k pos) (.ref I) body [] env) R s := by
  refine codeAny_forLoop_any (fun k s' => ∃ i, St i s'.heap ∧ J i s' ∧ i ≤ n ∧ k = n + 1 - i) ?_ (n + 1) ⟨0, hst, h0, Nat.zero_le _, rfl⟩
  rintro k s' ⟨i, hst', hJ, hi, rfl⟩
  by_cases hlt : i < n
  · refine W.item i _ _ _ hlt hst' fun T vals h₁ tk₁ hP hsz hT hM hk₁ => ?_
    refine W.go _ _ _ i T _ _ _ hM fun h₂ hst₂ hk₂ => ?_
    have hT2 : h₂.IsTuple T vals := hT.at fun o e => hk₂ T o (W.apart i T _ hM) e
    refine wpAny_mono (turn i T vals s' h₂ tk₁ hlt hP (Heap.get?_none_of_le hsz) hT2 hJ hst₂ (fun b o hb e => hk₂ b o hb (hk₁ b o hb e))) (fun _ s₂ h₂' => wpAny_mono h₂' (fun f s₃ h₃ => ?_) fun _ _ e => e) fun _ _ e => e
    cases f with
    | ret v => exact h₃
    | brk => exact h₃
    | cont =>
      obtain ⟨hJ₃, hk⟩ := h₃
      exact ⟨n + 1 - (i + 1), by omega, i + 1, W.frame _ _ _ hst₂ hk, hJ₃, hlt, rfl⟩
    | next =>
      obtain ⟨hJ₃, hk⟩ := h₃
      exact ⟨n + 1 - (i + 1), by omega, i + 1, W.frame _ _ _ hst₂ hk, hJ₃, hlt, rfl⟩
  · have hin : i = n := by omega
    subst hin
    refine W.done _ _ _ hst' fun h₁ tk₁ hk₁ => wpAny_execs_nil ?_
    exact done s' h₁ tk₁ hJ hk₁
theorem For_enumL {prog : Program} {w : World} {A : Around} {s : Shared} {env : Env} {E : Value → Shared → Prop} {Q : Flow → Shared → Prop} {elts : List PySem.Expr} {x1 : Nat} {px pos : Pos} {iter : PySem.Expr} {body : List Stmt} {vs : List Value}
    (hA : A.handled = none) (J : Addr → Addr → Addr → Nat → Shared → Prop)
    (h : wpAny (model prog w) A (eval iter env) (fun xv s₁ => ∃ e it l, xv = .ref e ∧ IsEnum s₁.heap e it 0 .none ∧ s₁.heap.IsListIter it l 0 ∧ s₁.heap.IsList l vs.toArray ∧ e ≠ it ∧ l ≠ e ∧ l ≠ it ∧ J e it l 0 s₁) E s)
    (turn : ∀ e it l i v t T s h₂ tk, vs[i]? = some v → s.heap.get? T = none → h₂.IsTuple T #[.int (i : Nat) t, v] → J e it l i s → (∀ a ∈ [e, it, l], ∃ o, h₂.get? a = some o) → Mod [e, it] s.heap h₂ →
      wpAny (model prog w) A (assign (.Tuple elts x1 px) env (.ref T)) (fun _ s₂ => wpAny (model prog w) A (execs body env) (fun f s₃ => match f with
        | .next | .cont => Back (J e it l (i + 1) s₃) [e, it, l] h₂ s₃.heap
        | .brk => Q .next s₃
        | .ret v => Q (.ret v) s₃) E s₂) E { s with heap := h₂, toks := tk })
    (done : ∀ e it l s h₂ tk, J e it l vs.length s → Mod [e, it] s.heap h₂ → Q .next { s with heap := h₂, toks := tk })
    (hs : ∀ x, foldedSetIterable iter env x = pure x := by intro _; rfl)
    (hE : PassesOwn (model prog w) A env E := by passes_own) :
    wpAny (model prog w) A (exec (.For (.Tuple elts x1 px) iter body [] pos) env) Q E s := by
  refine wpAny_For (wpAny_mono h (fun xv s₁ h₁ => ?_) fun _ _ e => e) hs
  obtain ⟨e, it, l, rfl, hen, hit, hl, n1, n2, n3, hJ⟩ := h₁
  refine wpAny_pyIter_enum hen ?_
  refine forLoopT (R := fun r s' => match r with | .ok f => Q f s' | .error e => cameBackBy (model prog w) A env E e s') (WalksT.enumerate hA e it l n1 n2 n3 vs.toArray) (J e it l) ⟨⟨_, hen⟩, hit, hl⟩ hJ ?_ ?_
  · rintro i T vals s h₂ tk hi ⟨t, v, hv, rfl⟩ nT hT hJ hst M
    obtain ⟨⟨old, q1⟩, q2, q3⟩ := hst
    refine wpAny_mono (turn e it l i v t T s h₂ tk (by simpa using hv) nT hT hJ (fun a ha => ?_) M) (fun _ s₂ h₂' => wpAny_passesOwn hE h₂') hE
    rcases List.mem_cons.mp ha with rfl | ha
    · exact ⟨_, q1⟩
    rcases List.mem_cons.mp ha with rfl | ha
    · obtain ⟨o, z, _⟩ := q2; exact ⟨o, z⟩
    · rw [List.mem_singleton.mp ha]; obtain ⟨o, z, _⟩ := q3; exact ⟨o, z⟩
  · intro s h₂ tk hJ M
    exact done e it l s h₂ tk (by simpa using hJ) M
theorem For_enumS {prog : Program} {w : World} {A : Around} {s : Shared} {env : Env} {E : Value → Shared → Prop} {Q : Flow → Shared → Prop} {elts : List PySem.Expr} {x1 : Nat} {px pos : Pos} {iter : PySem.Expr} {body : List Stmt} {xs : Str} {tx : Tok}
    (hA : A.handled = none) (J : Addr → Addr → Nat → Shared → Prop)
    (h : wpAny (model prog w) A (eval iter env) (fun xv s₁ => ∃ e it, xv = .ref e ∧ IsEnum s₁.heap e it 0 .none ∧ s₁.heap.IsStrIter it "str_ascii_iterator" xs tx 0 ∧ e ≠ it ∧ J e it 0 s₁) E s)
    (turn : ∀ e it i c u t T s h₂ tk, xs.cps[i]? = some c → s.heap.get? T = none → h₂.IsTuple T #[.int (i : Nat) t, .str ⟨#[c]⟩ u] → J e it i s → (∀ a ∈ [e, it], ∃ o, h₂.get? a = some o) → Mod [e, it] s.heap h₂ →
      wpAny (model prog w) A (assign (.Tuple elts x1 px) env (.ref T)) (fun _ s₂ => wpAny (model prog w) A (execs body env) (fun f s₃ => match f with
        | .next | .cont => Back (J e it (i + 1) s₃) [e, it] h₂ s₃.heap
        | .brk => Q .next s₃
        | .ret v => Q (.ret v) s₃) E s₂) E { s with heap := h₂, toks := tk })
    (done : ∀ e it s h₂ tk, J e it xs.cps.size s → Mod [e, it] s.heap h₂ → Q .next { s with heap := h₂, toks := tk })
    (hs : ∀ x, foldedSetIterable iter env x = pure x := by intro _; rfl)
    (hE : PassesOwn (model prog w) A env E := by passes_own) :
    wpAny (model prog w) A (exec (.For (.Tuple elts x1 px) iter body [] pos) env) Q E s := by
  refine wpAny_For (wpAny_mono h (fun xv s₁ h₁ => ?_) fun _ _ e => e) hs
  obtain ⟨e, it, rfl, hen, hit, n1, hJ⟩ := h₁
  refine wpAny_pyIter_enum hen ?_
  refine forLoopT (R := fun r s' => match r with | .ok f => Q f s' | .error e => cameBackBy (model prog w) A env E e s') (WalksT.enumerateD (Draws.strAscii (prog := prog) (w := w) (A := A.in1) hA it xs tx) e n1 (fun z => n1 (List.mem_singleton.mp z)) (.head _)) (J e it) ⟨⟨_, by simpa using hen⟩, hit⟩ hJ ?_ ?_
  · rintro i T vals s h₂ tk hi ⟨t, v, ⟨c, u, hc, rfl⟩, rfl⟩ nT hT hJ hst M
    obtain ⟨⟨old, q1⟩, q2⟩ := hst
    refine wpAny_mono (turn e it i c u t T s h₂ tk hc nT hT hJ (fun a ha => ?_) M) (fun _ s₂ h₂' => wpAny_passesOwn hE h₂') hE
    rcases List.mem_cons.mp ha with rfl | ha
    · exact ⟨_, q1⟩
    · rw [List.mem_singleton.mp ha]; obtain ⟨o, z, _⟩ := q2; exact ⟨o, z⟩
  · intro s h₂ tk hJ M
    exact done e it s h₂ tk hJ M
end
section
local macro_rules | `(tactic| walk_at "bf none") => `(tactic| skip)
local macro_rules | `(tactic| walk_at "bf none") => `(tactic| skip)
theorem slice_ex {prog : Program} {w : World} {A : Around} {E : Value → Shared → Prop} {s : Shared} {h : Heap} {value slice : PySem.Expr} {l : Addr} {ts zs : List Value} {cap : Nat} {vl vu : Value} {lo hi : Option Int} {Q : Value → Shared → Prop}
    (e0 : s.heap = h.push { cls := .type "slice", data := .fields #[vl, vu, .none] }) (hl : h.get? l = some (listO ts cap)) (pl : IsPart vl lo) (pu : IsPart vu hi) (e : (slicePick ts.toArray lo hi none).toList = zs) (hz : ts.length < 1000)
    (k : ∀ D h', Mod [] h h' → h.get? D = none → h'.get? D = some (listO zs 0) → Q (.ref D) { s with heap := h' })
    (hs : subscripted slice false (.ref l) (.ref h.objs.size) = operate [.ref h.objs.size, .ref l] (getItem (.ref l) (.ref h.objs.size)) := by with_unfolding_all rfl) :
    wpAny (model prog w) A (subscriptTail value slice (.ref l) (.ref h.objs.size)) Q E s := by
  obtain ⟨h0, a, b, c, d⟩ := s
  dsimp only at e0
  subst e0
  have hl' : h.IsList l ts.toArray := ⟨_, hl, rfl, cap, rfl⟩
  refine tail_any (Heap.IsList.typeIs (s := ⟨h.push { cls := .type "slice", data := .fields #[vl, vu, .none] }, a, b, c, d⟩) (hl'.push _)) slot_list_getitem.lookup (wpAny_getItem_list_slice (hl'.push _) (Heap.IsSliceOf.new ..) pl pu .none (by simp) ?_ (by rw [sizeLine_eq, List.size_toArray]; omega)) hs
  rw [Heap.size_push]
  refine k _ _ (fun b o _ e => Heap.get?_push_of_some _ (Heap.get?_push_of_some _ e)) (fresh_above _ 1) ?_
  have z := fun (A B : Obj) (q : B.isFreed = false) => Heap.get?_push_size (h.push A) (o := B) q
  have z1 := fun A => z A ({ cls := .type "list", data := .seq (slicePick ts.toArray lo hi none) }) rfl
  simp only [Heap.size_push] at z1
  rw [z1, ← e]
local macro_rules | `(tactic| walk_at "bf sub") => `(tactic| (repeat (first | exact List.Sublist.refl _ | exact List.nil_sublist _ | refine List.Sublist.cons₂ _ ?_ | refine List.Sublist.cons _ ?_)))
local macro_rules | `(tactic| walk_at "bf l1") => `(tactic| repeat' (first | ((fail_if_success (with_reducible show wpAny _ _ (call (Value.type "enumerate") _) _ _ _)); (fail_if_success (with_reducible show wpAny _ _ (subscriptTail _ _ (Value.ref _) (Value.ref _)) _ _ _)); (fail_if_success (with_reducible show wpAny _ _ (execs (PySem.Stmt.Assign _ _ _ :: _) _) _ _ _)); (first | (k_unfold; (try dsimp only)) | (walk1 <;> (try dsimp only)))) | fail "no step"))
theorem LoopV.grow {s0 : Shared} {K : Cst} {x : Fx} {Xs : List Addr} {m : Nat} {pv : Vars → Prop} {s : Shared} (LV : LoopV s0 K x [] m pv s) {h' : Heap} {tk' : Nat} (M : Mod [] s.heap h') (n : ∀ a ∈ Xs, s.heap.get? a = none ∧ ∃ o, h'.get? a = some o) : LoopV s0 K x Xs m pv { s with heap := h', toks := tk' } := by
  obtain ⟨stb, t1, t2, b1, b2, v, an, ta, pu, tp, spI, spL, tuI, tuL, tried, xj, spl, tul, svs, tvs, lvs, uvs, trv, k1, k2, k3, k4, k5, oj, hv, hof, I, S⟩ := LV
  have live : ∀ a ∈ [K.L, x.sp, spl, x.tu, tul, x.tr, x.cj], ∃ o, s.heap.get? a = some o := fun a ha => (S.gs.x0 a ha).2
  refine ⟨stb, t1, t2, b1, b2, v, an, ta, pu, tp, spI, spL, tuI, tuL, tried, xj, spl, tul, svs, tvs, lvs, uvs, trv, k1, k2, k3, k4, k5, oj, hv, fun a ha z => ?_, I, ⟨S.gs.walkN (M.mono fun _ z => nomatch z) (fr_mod0 S.gs.fr M) (news_mod0 S.gs.nw M) (fun a ha => ?_) (List.mem_append_right _ S.gs.hL) (fun p hp => List.mem_append_right _ (S.gs.hX p hp)) (S.gs.sbX (M.mono fun _ z => nomatch z) fun a ha => ?_), S.nsp, S.isp, S.ntu, S.itu, S.itr, S.j, S.nd, S.fix, S.nro⟩⟩
  · obtain ⟨o, e⟩ := live a z
    rw [(n a ha).1] at e; cases e
  · rcases List.mem_append.mp ha with ha | ha
    · exact ⟨.inr (n a ha).1, (n a ha).2⟩
    · obtain ⟨o, e⟩ := live a ha
      exact ⟨.inl ha, o, M _ _ (fun z => nomatch z) e⟩
  · rcases List.mem_append.mp ha with ha | ha
    · exact .inr (n a ha).1
    · exact .inl ha
theorem LoopV.shed {s0 : Shared} {K : Cst} {x : Fx} {Xs W : List Addr} {m : Nat} {pv : Vars → Prop} {s : Shared} (LV : LoopV s0 K x Xs m pv s) {h' : Heap} {tk' : Nat} (M : Mod W s.heap h') (hW : ∀ a ∈ W, a ∈ Xs) : LoopV s0 K x [] m pv { s with heap := h', toks := tk' } := by
  obtain ⟨stb, t1, t2, b1, b2, v, an, ta, pu, tp, spI, spL, tuI, tuL, tried, xj, spl, tul, svs, tvs, lvs, uvs, trv, k1, k2, k3, k4, k5, oj, hv, hof, I, S⟩ := LV
  have MX : Mod (Xs ++ [K.L, x.sp, spl, x.tu, tul, x.tr, x.cj]) s.heap h' := M.mono fun a ha => List.mem_append_left _ (hW a ha)
  have keep : ∀ a ∈ [K.L, x.sp, spl, x.tu, tul, x.tr, x.cj], ∀ o, s.heap.get? a = some o → h'.get? a = some o := fun a ha o e => M a o (fun z => hof a (hW a z) ha) e
  have gW : ∀ a ∈ W, K.g.get? a = none := fun a ha => S.gs.cg (S.gs.x0 a (List.mem_append_left _ (hW a ha))).1
  have F' := fr_mod S.gs.fr M (fun z => hof _ (hW _ z) (.head _)) gW
  have cX : ∀ p ∈ cells6 x spl tul svs tvs lvs uvs trv k1 k2 k3 k4 k5 oj, p.1 ∈ [K.L, x.sp, spl, x.tu, tul, x.tr, x.cj] := fun p hp => .tail _ (List.mem_map_of_mem (f := (·.1)) hp)
  have N' := news_mod S.gs.nw M (fun p hp z => hof _ (hW _ z) (cX p hp))
  refine ⟨stb, t1, t2, b1, b2, v, an, ta, pu, tp, spI, spL, tuI, tuL, tried, xj, spl, tul, svs, tvs, lvs, uvs, trv, k1, k2, k3, k4, k5, oj, hv, (fun a ha => nomatch ha), I, ⟨S.gs.walkN MX F' N' (fun a ha => ⟨.inl (List.mem_append_right _ ha), ?_⟩) (.head _) cX (S.gs.sbX MX fun a ha => .inl (List.mem_append_right _ ha)), S.nsp, S.isp, S.ntu, S.itu, S.itr, S.j, S.nd, S.fix, S.nro⟩⟩
  obtain ⟨o, e⟩ := (S.gs.x0 a (List.mem_append_right _ ha)).2
  exact ⟨o, keep a ha o e⟩
theorem LoopV.iter {s0 : Shared} {K : Cst} {x : Fx} {Xs W : List Addr} {m : Nat} {pv : Vars → Prop} {s : Shared} (LV : LoopV s0 K x Xs m pv s) {h' : Heap} {tk' : Nat} (M : Mod W s.heap h') (hW : ∀ a ∈ W, a ∈ Xs) (live : ∀ a ∈ Xs, ∃ o, h'.get? a = some o) : LoopV s0 K x Xs m pv { s with heap := h', toks := tk' } := by
  obtain ⟨stb, t1, t2, b1, b2, v, an, ta, pu, tp, spI, spL, tuI, tuL, tried, xj, spl, tul, svs, tvs, lvs, uvs, trv, k1, k2, k3, k4, k5, oj, hv, hof, I, S⟩ := LV
  have MX : Mod (Xs ++ [K.L, x.sp, spl, x.tu, tul, x.tr, x.cj]) s.heap h' := M.mono fun a ha => List.mem_append_left _ (hW a ha)
  have keep : ∀ a ∈ [K.L, x.sp, spl, x.tu, tul, x.tr, x.cj], ∀ o, s.heap.get? a = some o → h'.get? a = some o := fun a ha o e => M a o (fun z => hof a (hW a z) ha) e
  have gW : ∀ a ∈ W, K.g.get? a = none := fun a ha => S.gs.cg (S.gs.x0 a (List.mem_append_left _ (hW a ha))).1
  have F' := fr_mod S.gs.fr M (fun z => hof _ (hW _ z) (.head _)) gW
  have cX : ∀ p ∈ cells6 x spl tul svs tvs lvs uvs trv k1 k2 k3 k4 k5 oj, p.1 ∈ [K.L, x.sp, spl, x.tu, tul, x.tr, x.cj] := fun p hp => .tail _ (List.mem_map_of_mem (f := (·.1)) hp)
  have N' := news_mod S.gs.nw M (fun p hp z => hof _ (hW _ z) (cX p hp))
  refine ⟨stb, t1, t2, b1, b2, v, an, ta, pu, tp, spI, spL, tuI, tuL, tried, xj, spl, tul, svs, tvs, lvs, uvs, trv, k1, k2, k3, k4, k5, oj, hv, hof, I, ⟨S.gs.walkN MX F' N' (fun a ha => ⟨.inl ha, ?_⟩) S.gs.hL S.gs.hX (S.gs.sbX MX fun a ha => .inl ha), S.nsp, S.isp, S.ntu, S.itu, S.itr, S.j, S.nd, S.fix, S.nro⟩⟩
  rcases List.mem_append.mp ha with ha | ha
  · exact live a ha
  · obtain ⟨o, e⟩ := (S.gs.x0 a (List.mem_append_right _ ha)).2
    exact ⟨o, keep a ha o e⟩
theorem loop1 {s0 : Shared} {K : Cst} {x : Fx} {A : Around} {s : Shared} {Q : Flow → Shared → Prop} {stb : List (Addr × Obj)} {t1 t2 : Int} {b1 b2 : List BH} {v : Vars} {an : Nat} {ta : Tok} {pu : Int} {tp : Tok} {spI : List (List Int)} {spL : List Int} {tuI : List (List Int)} {tuL tried : List Int} {xj : Option Value}
    {spl tul : Addr} {svs tvs lvs uvs trv : List Value} {k1 k2 k3 k4 k5 : Nat} {oj oP : Obj} {lp : Addr} {pv : List Value} {cap : Nat}
    (LA : LawAt K x A) (hrw : x.rows = rowsAt x.PN K.D.nh K.D.bits) (I : Inv K x 0 b1 b2 t1 t2 pu an spI spL tuI tuL tried) (hP : ((K.L + 1 + 1 + 1 + 1 + 1 : Nat), oP) ∈ stb) (dP : oP.data = .cell (some (.ref lp))) (hlp : (lp, listO pv cap) ∈ stb) (hpv : IntsAre pv x.PN) (hlen : x.PN.length ≤ 63)
    (S : StA s0 K x [K.L, x.sp, spl, x.tu, tul, x.tr, x.cj] stb t1 t2 b1 b2 v (an : Nat) ta pu tp spI spL tuI tuL tried xj spl tul svs tvs lvs uvs trv k1 k2 k3 k4 k5 oj s)
    {st0 st1 : List Stmt} (hst0 : st0 = (bodyAt (hd1.heap_39 K.w.params) 557).drop 10) (hst1 : st1 = (bodyAt (hd1.heap_39 K.w.params) 557).drop 11)
    (k : ∀ m s', m ≤ 10 → LoopV s0 K x [] m (fun _ => True) s' → wpAny (model PySem.Challenge.rw_sv0019_01.row.prog K.w) (A.deeper (lawEnv K.w K.L)) (execs st1 (lawEnv K.w K.L)) Q (fun _ _ => False) s') :
    wpAny (model PySem.Challenge.rw_sv0019_01.row.prog K.w) (A.deeper (lawEnv K.w K.L)) (execs st0 (lawEnv K.w K.L)) Q (fun _ _ => False) s := by
  have LV0 : LoopV s0 K x [] 0 (fun _ => True) s := ⟨stb, t1, t2, b1, b2, v, an, ta, pu, tp, spI, spL, tuI, tuL, tried, xj, spl, tul, svs, tvs, lvs, uvs, trv, k1, k2, k3, k4, k5, oj, trivial, (fun a ha => nomatch ha), I, S⟩
  with_reducible have hT := fun (e it l : Addr) (s : Shared) (Q : Flow → Shared → Prop) m ti n tt tx a b c d => turn (Xs := [e, it, l]) (s0 := s0) (m := m) (ti := ti) (n := n) (tt := tt) (tx := tx) (s := s) (Q := Q) LA hrw a b c (st0 := forBody 10 (bodyAt (hd1.heap_39 K.w.params) 557)) rfl d
  subst hst0
  subst hst1
  revert k hT
  obtain ⟨G, nsp, isp, ntu, itu, itr, hj, nd, fx, nro⟩ := S
  have LA' := LA
  obtain ⟨hr, hfr, XK, ⟨p₁, loose, mean, mg, mb, T⟩, ok, hf, ff, HFs, ⟨sm1, sm2, sm3⟩, hq, hrows, hod, hos, ⟨ad1, ad2, ad3⟩⟩ := LA
  obtain ⟨hd0, dp0, fr0, gd0, un0⟩ := A
  obtain rfl : hd0 = none := hr.hd
  refine' with_lookup (K := hd1.heap_39 K.w.params) (f := 557) ?ho ?_
  case ho => k_is
  intro hB hS
  have hE : lawEnv K.w K.L = lawEnv K.w K.L := rfl
  conv at hE => lhs; unfold lawEnv; rw [hS]
  unfold lawEnv
  rw [hB, hS]
  dsimp only [forBody, List.getElem?_cons_succ, List.getElem?_cons_zero, List.drop_succ_cons, List.drop_zero]
  intro hT k
  have F := G.fr
  have N := G.news [((K.L + 1 + 1 + 1 + 1 + 1 : Nat), oP), (lp, listO pv cap)] (fun p hp => by
    rcases List.mem_cons.mp hp with rfl | hp
    · exact hP
    · rw [List.mem_singleton.mp hp]; exact hlp)
  have hpl : pv.length = x.PN.length := hpv.length
  have hv10 : IntsAre (pv.take 10) (x.PN.take 10) := hpv.take 10
  clear hB hS
  (walk1; (try dsimp only))
  refine For_enumL (vs := pv.take 10) rfl (fun e it l i s' => LoopV s0 K x [e, it, l] i (fun _ => True) s') ?start ?turn ?done
  case start =>
    unfold lawMap at F
    simp only [cells6, List.cons_append, List.nil_append] at N
    walk_at "bf l1"
    refine slice_ex (h := s.heap) (zs := pv.take 10) rfl (N (lp, listO pv cap) (by k_mem)).1 (by kmk_part) (by kmk_part) (pick_upto _ (y := 10) (by decide)) (by omega) ?_
    intro Dn h1 M1 nD hD
    have F1 := fr_mod0 F M1
    have N1 := news_add (news_mod0 N M1) hD (fr_new F nD)
    clear F N
    walk_at "bf l1"
    have hl1 : h1.IsList Dn (pv.take 10).toArray := ⟨_, hD, rfl, 0, rfl⟩
    have ltD : Dn < h1.objs.size := Heap.lt_size hD
    have back : ∀ a, h1.get? a = none → s.heap.get? a = none := fun a n => by
      cases q9 : s.heap.get? a with
      | none => rfl
      | some o => rw [M1 a o (fun z => nomatch z) q9] at n; cases n
    refine call_enumerate_list hl1 fun h2 hE2 hI2 hsz2 hk2 => ?_
    refine ⟨_, _, Dn, rfl, hE2, hI2, hl1.at fun o e => hk2 _ o e, Nat.succ_ne_self _, Nat.ne_of_lt (Nat.lt_succ_of_lt ltD), Nat.ne_of_lt ltD, LV0.grow (M1.trans fun b o _ e => hk2 b o e) (fun a ha => ?_)⟩
    rcases List.mem_cons.mp ha with rfl | ha
    · exact ⟨back _ (Heap.get?_none_of_le (Nat.le_succ _)), _, hE2⟩
    rcases List.mem_cons.mp ha with rfl | ha
    · obtain ⟨o, e, _⟩ := hI2
      exact ⟨back _ (Heap.get?_none_of_le (Nat.le_refl _)), o, e⟩
    · rw [List.mem_singleton.mp ha]
      exact ⟨nD, _, hk2 _ _ hD⟩
  case turn =>
    intro e it l i v9 t9 T9 s9 h9 tk9 hv nT hT9 J live M
    obtain ⟨n, tn, rfl, hn⟩ := IntsAre.at hv10 i v9 hv
    have hi10 : i < 10 := by
      have := (List.getElem?_eq_some_iff.mp hv).1
      rw [List.length_take] at this
      omega
    have LV2 := LoopV.iter (tk' := tk9) J M (fun a ha => by
      rcases List.mem_cons.mp ha with rfl | ha
      · exact .head _
      · exact .tail _ (by rw [List.mem_singleton.mp ha]; exact .head _)) live
    clear F N
    obtain ⟨stb2, t12, t22, b12, b22, v2, an2, ta2, pu2, tp2, spI2, spL2, tuI2, tuL2, tried2, xj2, spl2, tul2, svs2, tvs2, lvs2, uvs2, trv2, k12, k22, k32, k42, k52, oj2, _, hof2, I2, S2⟩ := LV2
    have N0 := S2.gs.news [] (fun p hp => nomatch hp)
    obtain ⟨own, N2, hoff, rb, rn⟩ := rebase2 (fix := []) S2.gs.fr N0
    have F2 := S2.gs.fr
    unfold lawMap at F2
    simp only [cells6] at hoff
    simp only [cells6, List.cons_append, List.nil_append] at N2
    have tupT : IsTup h9 T9 #[.int (i : Nat) t9, .int n tn] := hT9
    (try dsimp only at F2 N2)
    walk_at "bf l1"
    rename Fr _ _ _ _ => F3
    rename News _ _ _ _ => N3
    have M3 := rb _ _ F3 (news_sub N3 (by walk_at "bf sub"))
    have F4 := canonF (base := Fx.base x K) F3 rfl rfl (fun y y1 y2 y3 y4 y5 y6 y7 y8 y9 y10 y11 y12 => by simp only [if_neg y1, if_neg y2, if_neg y3, if_neg y4, if_neg y5, if_neg y6, if_neg y7, if_neg y8, if_neg y9, if_neg y10, if_neg y11, if_neg y12])
    have G3 := fun tk0 => S2.gs.walk (tk' := tk0) M3 F4 (news_sub N3 (by unfold cells6; walk_at "bf sub")) rfl
    refine hT e it l ⟨_, _, _, _, _⟩ _ i i n t9 tn hi10 (by omega) ⟨stb2, t12, t22, b12, b22, _, an2, ta2, pu2, tp2, spI2, spL2, tuI2, tuL2, tried2, xj2, spl2, tul2, svs2, tvs2, lvs2, uvs2, trv2, k12, k22, k32, k42, k52, oj2, ⟨rfl, rfl⟩, hof2, I2, ⟨G3 _, S2.nsp, S2.isp, S2.ntu, S2.itu, S2.itr, S2.j, S2.nd, S2.fix, S2.nro⟩⟩ (fun s' LV' kp => ⟨LV', fun b hb o ho => kp b hb o (M3 b o (fun z => hof2 b hb z) ho)⟩)
  case done =>
    intro e it l s9 h9 tk9 J M
    refine k _ _ ?_ (LoopV.shed (tk' := tk9) J M fun a ha => ?_)
    · rw [List.length_take]; omega
    · rcases List.mem_cons.mp ha with rfl | ha
      · exact .head _
      · exact .tail _ (by rw [List.mem_singleton.mp ha]; exact .head _)
end
section
local macro_rules | `(tactic| walk_at "bf none") => `(tactic| skip)
local macro_rules | `(tactic| walk_at "bf none") => `(tactic| skip)
local macro_rules | `(tactic| walk_at "bf none") => `(tactic| skip)
def map2 (base : Str → Option Value) (v : Vars) (al : Int) (ta : Tok) (pu : Int) (tp : Tok) (sd : Value) (u1 u2 : Option Value) : Str → Option Value := fun y =>
  if y = Str.ofString "stand" then some sd else if y = Str.ofString "here" then u1 else if y = Str.ofString "there" then u2 else lawMap base v al ta pu tp y
theorem canon2 {g h : Heap} {L : Addr} {m base : Str → Option Value} {al pu : Int} {ta tp : Tok} {sd : Value} (F : Fr g L h m) (hS : m (Str.ofString "stand") = some sd) (hA : m (Str.ofString "alive") = some (.int al ta)) (hP : m (Str.ofString "puts") = some (.int pu tp))
    (k : ∀ y, y ≠ Str.ofString "stand" → y ≠ Str.ofString "here" → y ≠ Str.ofString "there" → y ≠ Str.ofString "alive" → y ≠ Str.ofString "puts" → y ≠ Str.ofString "t" → y ≠ Str.ofString "x" → y ≠ Str.ofString "kind" → y ≠ Str.ofString "key" → y ≠ Str.ofString "row" → y ≠ Str.ofString "forced" → y ≠ Str.ofString "begun" → y ≠ Str.ofString "popped" → y ≠ Str.ofString "heaps" → y ≠ Str.ofString "said" → m y = base y) : Fr g L h (map2 base (varsOf m) al ta pu tp sd (m (Str.ofString "here")) (m (Str.ofString "there"))) := by
  have e : m = map2 base (varsOf m) al ta pu tp sd (m (Str.ofString "here")) (m (Str.ofString "there")) := by
    funext y
    unfold map2
    by_cases h1 : y = Str.ofString "stand"
    · rw [if_pos h1, h1, hS]
    rw [if_neg h1]
    by_cases h2 : y = Str.ofString "here"
    · rw [if_pos h2, h2]
    rw [if_neg h2]
    by_cases h3 : y = Str.ofString "there"
    · rw [if_pos h3, h3]
    rw [if_neg h3]
    have e2 := lawMap_of (m := fun z => if z = Str.ofString "stand" ∨ z = Str.ofString "here" ∨ z = Str.ofString "there" then base z else m z) (base := base) (al := al) (ta := ta) (pu := pu) (tp := tp) (by rw [if_neg (by decide +kernel)]; exact hA) (by rw [if_neg (by decide +kernel)]; exact hP) (fun z hz => by
      by_cases c : z = Str.ofString "stand" ∨ z = Str.ofString "here" ∨ z = Str.ofString "there"
      · rw [if_pos c]
      · rw [if_neg c]
        simp only [not_or] at c
        simp only [lawNames, List.mem_cons, List.not_mem_nil, or_false, not_or] at hz
        obtain ⟨y1, y2, y3, y4, y5, y6, y7, y8, y9, y10, y11, y12⟩ := hz
        exact k z c.1 c.2.1 c.2.2 y1 y2 y3 y4 y5 y6 y7 y8 y9 y10 y11 y12)
    have e3 := congrFun e2 y
    simp only [if_neg (show ¬ (y = Str.ofString "stand" ∨ y = Str.ofString "here" ∨ y = Str.ofString "there") from fun z => by rcases z with z | z | z; exact h1 z; exact h2 z; exact h3 z)] at e3
    rw [e3]
    have ev : varsOf (fun z => if z = Str.ofString "stand" ∨ z = Str.ofString "here" ∨ z = Str.ofString "there" then base z else m z) = varsOf m := by
      unfold varsOf
      simp only [Vars.mk.injEq]
      refine ⟨?_, ?_, ?_, ?_, ?_, ?_, ?_, ?_, ?_, ?_⟩ <;> exact if_neg (by decide +kernel)
    rw [ev]
  rw [← e]
  exact F
local macro_rules | `(tactic| walk_at "bf sub") => `(tactic| (repeat (first | exact List.Sublist.refl _ | exact List.nil_sublist _ | refine List.Sublist.cons₂ _ ?_ | refine List.Sublist.cons _ ?_)))
local macro_rules | `(tactic| walk_at "bf st1") => `(tactic| repeat' (first | ((fail_if_success (with_reducible show wpAny _ _ (call (Value.ref _) _) _ _ _)); (fail_if_success (with_reducible show wpAny _ _ (subscriptTail _ _ (Value.ref _) (Value.ref _)) _ _ _)); (fail_if_success (with_reducible show wpAny _ _ (execs (PySem.Stmt.For _ _ _ _ _ :: _) _) _ _ _)); (first | (k_unfold; (try dsimp only)) | (walk1 <;> (try dsimp only)))) | fail "no step"))
theorem seg11 {s0 : Shared} {K : Cst} {x : Fx} {A : Around} {X : List Addr} {s : Shared} {Q : Flow → Shared → Prop} {stb : List (Addr × Obj)} {t1 t2 : Int} {b1 b2 : List BH} {v : Vars} {an : Nat} {ta : Tok} {pu : Int} {tp : Tok} {spI : List (List Int)} {spL : List Int} {tuI : List (List Int)} {tuL tried : List Int} {xj : Option Value}
    {spl tul : Addr} {svs tvs lvs uvs trv : List Value} {k1 k2 k3 k4 k5 : Nat} {oj : Obj}
    (LA : LawAt K x A) (P : Plain x spI spL tuI tuL) (han : 1 ≤ an ∧ an ≤ (heapsOf K.D.est (tuI ++ [tuL])).length)
    (S : StA s0 K x X stb t1 t2 b1 b2 v (an : Nat) ta pu tp spI spL tuI tuL tried xj spl tul svs tvs lvs uvs trv k1 k2 k3 k4 k5 oj s)
    {st0 st1 : List Stmt} (hst0 : st0 = (bodyAt (hd1.heap_39 K.w.params) 557).drop 11) (hst1 : st1 = (bodyAt (hd1.heap_39 K.w.params) 557).drop 12)
    (k : ∀ v' stb' Ds sds sk u1 u2 s', (∀ p ∈ stb, p ∈ stb') → (Ds, listO sds sk) ∈ stb' → Nest (fun a o => (a, o) ∈ stb') sds (win (heapsOf K.D.est (tuI ++ [tuL])) an) →
      GS s0 K X stb' t1 t2 b1 b2 (map2 (x.base K) v' (an : Nat) ta pu tp (.ref Ds) u1 u2) (cells6 x spl tul svs tvs lvs uvs trv k1 k2 k3 k4 k5 oj) s' →
      wpAny (model PySem.Challenge.rw_sv0019_01.row.prog K.w) (A.deeper (lawEnv K.w K.L)) (execs st1 (lawEnv K.w K.L)) Q (fun _ _ => False) s') :
    wpAny (model PySem.Challenge.rw_sv0019_01.row.prog K.w) (A.deeper (lawEnv K.w K.L)) (execs st0 (lawEnv K.w K.L)) Q (fun _ _ => False) s := by
  subst hst0
  subst hst1
  revert k
  obtain ⟨G, nsp, isp, ntu, itu, itr, hj, nd, fx, nro⟩ := S
  obtain ⟨hr, hfr, XK, ⟨p₁, loose, mean, mg, mb, T⟩, ok, hf, ff, HFs, ⟨sm1, sm2, sm3⟩, hq, hrows, hod, hos, ⟨ad1, ad2, ad3⟩⟩ := LA
  obtain ⟨z1, z2, z3, z4⟩ := P
  obtain ⟨hd0, dp0, fr0, gd0, un0⟩ := A
  obtain rfl : hd0 = none := hr.hd
  refine' with_lookup (K := hd1.heap_39 K.w.params) (f := 557) ?ho ?_
  case ho => k_is
  intro hB hS
  unfold lawEnv
  rw [hB, hS]
  (try simp only [List.drop_succ_cons, List.drop_zero])
  intro k
  clear hB hS
  have O0 : Wd K.w K.g := ⟨XK, _, _, _, _, _, T⟩
  have few := heaps_few (n := K.D.est) z3 fun l hl => (z4 l hl).1
  have F := G.fr
  have N := G.nw
  unfold lawMap at F
  simp only [cells6] at N
  walk_at "bf st1"
  refine wpAny_call ?_
  refine heaps_spec (spans := tuI ++ [tuL]) (Wd.keeps O0 F.keep) (hr.down 146).deeper (N (x.tu, listO (tvs ++ [.ref tul]) k3) (by k_mem)).1 (Nest.append (ntu.mono fun a o z => G.stab z) (.cons (N (tul, listO uvs k4) (by k_mem)).1 itu .nil)) ⟨ok.est, by omega⟩ (by simp; omega) (fun l hl => by have := (z4 l hl).1; omega) ?_
  intro Dh hys h2 tk2 M2 nD hD hN
  (try dsimp only at M2 nD)
  have hyl : hys.length = (heapsOf K.D.est (tuI ++ [tuL])).length := hN.len
  obtain ⟨ps, hps1, hps2⟩ := hN.pairs
  have F2 := fr_mod0 F M2
  have N2 := news_mod0 N M2
  walk_at "bf st1"
  refine slice_neg (h := h2) rfl hD (by rw [hyl]; exact han) (by omega) ?_
  intro Ds h5 M5 nDs hDs
  (try dsimp only)
  have back : s.heap.get? Ds = none := by
    cases q9 : s.heap.get? Ds with
    | none => rfl
    | some o => rw [M2 Ds o (fun z => nomatch z) q9] at nDs; cases nDs
  have G5 := G.take (tk' := 0) (ps := (Ds, listO (hys.drop (hys.length - an)) 0) :: ps) (M2.trans M5) (fun p hp => by
    rcases List.mem_cons.mp hp with rfl | hp
    · exact ⟨hDs, back⟩
    · exact ⟨M5 _ _ (fun z => nomatch z) (hps2 p hp).1, (hps2 p hp).2.1⟩)
  have N0 := G5.news [] (fun p hp => nomatch hp)
  clear F N F2 N2
  obtain ⟨own, N6, hoff, rb, rn⟩ := rebase2 (fix := []) G5.fr N0
  have F6 := G5.fr
  unfold lawMap at F6
  simp only [cells6] at hoff
  simp only [cells6, List.cons_append, List.nil_append] at N6
  (try dsimp only at F6 N6)
  walk_at "bf st1"
  rename Fr _ _ _ _ => F7
  rename News _ _ _ _ => N7
  have M7 := rb _ _ F7 (news_sub N7 (by walk_at "bf sub"))
  have F8 := canon2 (base := Fx.base x K) F7 rfl rfl rfl (fun y y1 y2 y3 y4 y5 y6 y7 y8 y9 y10 y11 y12 y13 y14 y15 => by simp only [if_neg y1, if_neg y4, if_neg y5, if_neg y6, if_neg y7, if_neg y8, if_neg y9, if_neg y10, if_neg y11, if_neg y12, if_neg y13, if_neg y14, if_neg y15])
  have G7 := fun tk0 => G5.walk (tk' := tk0) M7 F8 (news_sub N7 (by unfold cells6; walk_at "bf sub")) rfl
  refine k _ _ Ds _ _ _ _ _ (fun p hp => List.mem_append_right _ hp) (.head _) ?_ (G7 _)
  unfold win
  rw [hyl]
  exact (hps1.mono fun a o z => List.mem_append_left _ (.tail _ z)).drop _
end
section
local macro_rules | `(tactic| walk_at "bf none") => `(tactic| skip)
local macro_rules | `(tactic| walk_at "bf none") => `(tactic| skip)
local macro_rules | `(tactic| walk_at "bf none") => `(tactic| skip)
theorem kb_sameAll : ∀ ns ms : List Bool, PySem.Spec.sameAll (ns.map PyData.bool) (ms.map PyData.bool) = decide (ns = ms)
  | [], [] => by simp [PySem.Spec.sameAll]
  | [], _ :: _ => by simp [PySem.Spec.sameAll]
  | _ :: _, [] => by simp [PySem.Spec.sameAll]
  | a :: r, b :: t => by
    simp only [List.map_cons, PySem.Spec.sameAll, PySem.Spec.same, kb_sameAll r t]
    cases a <;> cases b <;> by_cases h' : r = t <;> simp [h']
theorem kb_same (ns ms : List Bool) : PySem.Spec.same (.list (ns.map PyData.bool)) (.list (ms.map PyData.bool)) = decide (ns = ms) := by
  simp only [PySem.Spec.same]; exact kb_sameAll ns ms
theorem kb_canLayAll0 : ∀ ns : List Bool, PyData.canLayAll0 (ns.map PyData.bool) = true
  | [] => rfl
  | _ :: r => by simp [PyData.canLayAll0, PyData.canLay0, kb_canLayAll0 r]
theorem kb_depthAll : ∀ ns : List Bool, PyData.depthAll (ns.map PyData.bool) = 0
  | [] => rfl
  | _ :: r => by simp [PyData.depthAll, PyData.depth, kb_depthAll r]
theorem kb_shaped (ns : List Bool) : SeqAt.shaped (.list (ns.map PyData.bool)) = true := by
  simp [SeqAt.shaped, PyData.canLay0, PyData.depth, kb_canLayAll0, kb_depthAll]
theorem kb_carried : ∀ (ns : List Bool), CarriedAll (ns.map Value.bool) (ns.map PyData.bool)
  | [] => .nil
  | _ :: r => .cons (.bool _) (kb_carried r)
theorem ne_bools {prog : Program} {w : World} {A : Around} {E : Value → Shared → Prop} {s : Shared} {a b : Addr} {bs cs : List Bool} {Q : Value → Shared → Prop} (ha : s.heap.IsList a (bs.map Value.bool).toArray) (hb : s.heap.IsList b (cs.map Value.bool).toArray) (hu : A.units + 64 < cLine) (h : Q (.bool (!decide (bs = cs))) s) :
    wpAny (model prog w) A (compareOp .NotEq (.ref a) (.ref b)) Q E s :=
  ne_dataH_same (reads_newData ha (kb_carried bs)) (reads_newData hb (kb_carried cs)) (kb_shaped _) (kb_shaped _) hu (SeqAt.noMix_of_shape (.list .bool) rfl _ _ (list_map_has fun _ => rfl) (list_map_has fun _ => rfl)) (by rw [kb_same]; exact h)
local macro_rules | `(tactic| walk_at "bf sub") => `(tactic| (repeat (first | exact List.Sublist.refl _ | exact List.nil_sublist _ | refine List.Sublist.cons₂ _ ?_ | refine List.Sublist.cons _ ?_)))
local macro_rules | `(tactic| walk_at "bf u1") => `(tactic| repeat' (first | ((fail_if_success (with_reducible show wpAny _ _ (call (Value.ref _) _) _ _ _)); (fail_if_success (with_reducible show wpAny _ _ (compareOp CmpOp.In (Value.str _ _) (Value.ref _)) _ _ _)); (fail_if_success (with_reducible show wpAny _ _ (compareOp CmpOp.In (Value.int _ _) (Value.ref _)) _ _ _)); (fail_if_success (with_reducible show wpAny _ _ (call (Value.builtin "any") _) _ _ _)); (fail_if_success (with_reducible show wpAny _ _ (execs [PySem.Stmt.If (PySem.Expr.Compare _ _ _ _) _ _ _] _) _ _ _)); (fail_if_success (with_reducible show wpAny _ _ (compareOp CmpOp.NotEq (Value.ref _) (Value.ref _)) _ _ _)); (fail_if_success (with_reducible show wpAny _ _ (subscriptTail _ _ (Value.ref _) (Value.int _ _)) _ _ _)); (fail_if_success (with_reducible show wpAny _ _ (eval (PySem.Expr.ListComp _ _ _ _) _) _ _ _)); (first | (k_unfold; (try dsimp only)) | (walk1 <;> (try dsimp only)))) | fail "no step"))
local macro_rules | `(tactic| walk_at "bf src") => `(tactic| repeat' (first | ((with_reducible show wpAny _ _ _ _ _ _); (walk1 <;> (try dsimp only))) | fail "no step"))
theorem seg12a {s0 : Shared} {K : Cst} {x : Fx} {A : Around} {X : List Addr} {s : Shared} {Q : Flow → Shared → Prop} {stb : List (Addr × Obj)} {t1 t2 : Int} {b1 b2 : List BH} {v : Vars} {an : Nat} {ta : Tok} {pu : Int} {tp : Tok} {spI : List (List Int)} {spL : List Int} {tuI : List (List Int)} {tuL tried : List Int}
    {spl tul : Addr} {svs tvs lvs uvs trv : List Value} {k1 k2 k3 k4 k5 : Nat} {oj : Obj} {Ds : Addr} {sds : List Value} {sk m i : Nat} {u1 u2 : Option Value} {tky tj : Tok}
    (LA : LawAt K x A) (hrw : x.rows = rowsAt x.PN K.D.nh K.D.bits) (I : Inv K x m b1 b2 t1 t2 pu an spI spL tuI tuL tried) (hm : m < 20) (hi : i < 5)
    (hDs : (Ds, listO sds sk) ∈ stb) (hNs : Nest (fun a o => (a, o) ∈ stb) sds (win (heapsOf K.D.est (tuI ++ [tuL])) an)) (nsp : Nest (fun a o => (a, o) ∈ stb) svs spI) (isp : IntsAre lvs spL) (itr : IntsAre trv tried) (nd : [x.sp, spl, x.tu, tul, x.tr, x.cj].Nodup) (fx : ∀ p ∈ fix3 x, p ∈ stb) (nro : Nest (fun a o => (a, o) ∈ stb) x.rts x.rows)
    (hj : oj.data = .cell (some (.int (i : Nat) tj))) (hv : v.key = some (.str ⟨#[97 + i]⟩ tky))
    (G : GS s0 K X stb t1 t2 b1 b2 (map2 (x.base K) v (an : Nat) ta pu tp (.ref Ds) u1 u2) (cells6 x spl tul svs tvs lvs uvs trv k1 k2 k3 k4 k5 oj) s)
    {st0 st1 : List Stmt} (hst0 : st0 = forBody 12 (bodyAt (hd1.heap_39 K.w.params) 557)) (hst1 : st1 = (forBody 12 (bodyAt (hd1.heap_39 K.w.params) 557)).drop 2)
    (k : ∀ v' s', v'.key = v.key → GS s0 K X stb t1 t2 b1 b2 (map2 (x.base K) v' (an : Nat) ta pu tp (.ref Ds) (some (.bool (toldP (heapsOf K.D.est (spI ++ [spL])) x.rows (x.rows.getD i [])))) (some (.bool (toldP (win (heapsOf K.D.est (tuI ++ [tuL])) an) x.rows (x.rows.getD i []))))) (cells6 x spl tul svs tvs lvs uvs trv k1 k2 k3 k4 k5 oj) s' →
      (∀ a ∈ X, a ∉ K.L :: (cells6 x spl tul svs tvs lvs uvs trv k1 k2 k3 k4 k5 oj).map (·.1) → ∀ o, s.heap.get? a = some o → s'.heap.get? a = some o) →
      wpAny (model PySem.Challenge.rw_sv0019_01.row.prog K.w) (A.deeper (lawEnv K.w K.L)) (execs st1 (lawEnv K.w K.L)) Q (fun _ _ => False) s') :
    wpAny (model PySem.Challenge.rw_sv0019_01.row.prog K.w) (A.deeper (lawEnv K.w K.L)) (execs st0 (lawEnv K.w K.L)) Q (fun _ _ => False) s := by
  have P := I.plain hm
  have hA1 := told_eq (bs := b1) (hs := spreadOf x.PN i K.D.nh) LA.ok.bits (by rw [← hrw]; exact I.r1) (spread_take (Nat.le_refl _)) hi
  have hA2 := told_eq (bs := b2) (hs := spreadOf x.PN i K.D.nh) LA.ok.bits (by rw [← hrw]; exact I.r2) (spread_take (Nat.le_refl _)) hi
  rw [← hrw] at hA1 hA2
  obtain ⟨hA, ehA⟩ : ∃ b, b = toldP (heapsOf K.D.est (spI ++ [spL])) x.rows (x.rows.getD i []) := ⟨_, rfl⟩
  obtain ⟨tB, etB⟩ : ∃ b, b = toldP (win (heapsOf K.D.est (tuI ++ [tuL])) an) x.rows (x.rows.getD i []) := ⟨_, rfl⟩
  rw [← ehA] at hA1
  rw [← etB] at hA2
  have trt := I.trt i hi
  rw [← ehA] at trt
  have tr5 := I.tr5
  obtain ⟨z, hz⟩ : ∃ z, tried[i]? = some z := ⟨_, List.getElem?_eq_getElem (by omega)⟩
  have hb1 := I.l1
  have hb2 := I.l2
  obtain ⟨z1, z2, z3, z4⟩ := P
  subst hst0
  subst hst1
  revert k
  obtain ⟨hr, hfr, XK, ⟨p₁, loose, mean, mg, mb, T⟩, ok, hf, ff, HFs, ⟨sm1, sm2, sm3⟩, hq, hrows, hod, hos, ⟨ad1, ad2, ad3⟩⟩ := LA
  obtain ⟨w, g, c, L, D, q, e1, de1, L1, e2, de2, L2⟩ := K
  obtain ⟨PN, f, sp, tu, tr, cj, cd, cs, lr, l0, od, os, rts, rk, rows, tn, tm, te, td⟩ := x
  obtain ⟨vt, vx, vkind, vkey, vrow, vforced, vbegun, vpopped, vheaps, vsaid⟩ := v
  dsimp only at *
  subst hv
  subst ad1 ad2 ad3
  obtain ⟨hd0, dp0, fr0, gd0, un0⟩ := A
  obtain rfl : hd0 = none := hr.hd
  refine' with_lookup (K := hd1.heap_39 w.params) (f := 557) ?ho ?_
  case ho => k_is
  intro hB hS
  unfold lawEnv
  rw [hB, hS]
  dsimp only [forBody, List.getElem?_cons_succ, List.getElem?_cons_zero, List.drop_succ_cons, List.drop_zero]
  rw [← ehA, ← etB]
  intro k
  clear hB hS
  have O0 : Wd w g := ⟨XK, _, _, _, _, _, T⟩
  obtain ⟨⟨a1, a2, a3, a4, a5⟩, ⟨a6, a7, a8, a9⟩, ⟨a10, a11, a12⟩, ⟨a13, a14⟩, a15⟩ := nodup6 nd
  obtain ⟨⟨c1, c2, c3, c4, c5⟩, ⟨c6, c7, c8, c9, c10⟩, ⟨c11, c12, c13, c14, c15, c16⟩⟩ := apart93 G fx
  dsimp only at a1 a2 a3 a4 a5 a6 a7 a8 a9 a10 a11 a12 a13 a14 a15 c1 c2 c3 c4 c5 c6 c7 c8 c9 c10 c11 c12 c13 c14 c15 c16
  have fix4 : ∀ p ∈ [((L + 1 + 1 + 1 : Nat), od), ((L + 1 : Nat), os), (lr, listO rts rk), (Ds, listO sds sk)], p ∈ stb := fun p hp => by
    rcases List.mem_append.mp (show p ∈ [((L + 1 + 1 + 1 : Nat), od), ((L + 1 : Nat), os), (lr, listO rts rk)] ++ [(Ds, listO sds sk)] from hp) with hp | hp
    · exact fx p hp
    · rw [List.mem_singleton.mp hp]; exact hDs
  have F := G.fr
  have N := G.news _ fix4
  unfold map2 lawMap at F
  simp only [cells6, List.cons_append, List.nil_append] at N
  walk_at "bf u1"
  refine cont_fil (h₀ := c) F XK G.f1 ?_
  refine wpAny_call ?_
  refine contains_fil (h₀ := c) (hs := spreadOf PN i D.nh) G.on (hr.down 98).deeper ok G.f1 hf ff (HFs i D.nh _ hi (by omega)) (by simp [spreadOf]) G.tab ?_
  intro s1 A1 T1
  rw [hA1]
  have G1 := (G.call0 (Mod.refl [] _)).callT A1 T1
  clear F N
  have F1 := G1.fr
  have N1 := G1.news _ fix4
  unfold map2 lawMap at F1
  simp only [cells6, List.cons_append, List.nil_append] at N1
  walk_at "bf u1"
  refine cont_fil (h₀ := c) F1 XK G1.f2 ?_
  refine wpAny_call ?_
  refine contains_fil (h₀ := c) (hs := spreadOf PN i D.nh) G1.on (hr.down 98).deeper ok G1.f2 hf ff (HFs i D.nh _ hi (by omega)) (by simp [spreadOf]) G1.tab ?_
  intro s2 A2 T2
  rw [hA2]
  have G2 := (G1.call0 (Mod.refl [] _)).callT A2 T2
  clear F1 N1
  have N0 := G2.news _ fix4
  obtain ⟨own, N2, hoff, rb, rn⟩ := rebase2 G2.fr N0
  have F2 := G2.fr
  unfold map2 lawMap at F2
  simp only [cells6] at hoff
  simp only [cells6, List.cons_append, List.nil_append] at N2
  (try dsimp only at F2 N2)
  walk_at "bf u1"
  rename Fr _ _ _ _ => F3
  rename News _ _ _ _ => N3
  have hsdl : sds.length = an := hNs.len.trans (win_len I.an1.2)
  have han9 := I.anq
  (try dsimp only at han9)
  have htl : trv.length = 5 := itr.length.trans tr5
  refine item_ints (News.isList N3 (by k_mem)) itr (by omega) (by omega) (by omega) ?_
  intro t9
  have ez : tried.getD ((i : Int)).toNat 0 = z := by rw [Int.toNat_natCast, List.getD_eq_getElem?_getD, hz]; rfl
  rw [ez]
  -- what holds where the first test is done with
  have fin := fun (tk0 : Nat) (h9 : Heap) (l9 : List (Addr × Obj)) (N9 : News g L h9 l9) (F9 : Fr g L h9 fun y => if y = Str.ofString "here" then some (Value.bool hA) else if y = Str.ofString "there" then some (Value.bool tB) else if y = Str.ofString "stand" then some (.ref Ds) else if y = Str.ofString "here" then u1 else if y = Str.ofString "there" then u2 else lawMap (Fx.base ⟨PN, f, sp, tu, tr, L + 1 + 1 + 1 + 1, L + 1 + 1 + 1, L + 1, lr, l0, od, os, rts, rk, rows, tn, tm, te, td⟩ ⟨w, g, c, L, D, q, e1, de1, L1, e2, de2, L2⟩) ⟨vt, vx, vkind, some (.str ⟨#[97 + i]⟩ tky), vrow, vforced, vbegun, vpopped, vheaps, vsaid⟩ (an : Nat) ta pu tp y)
      (q1 : List.Sublist (cells6 ⟨PN, f, sp, tu, tr, L + 1 + 1 + 1 + 1, L + 1 + 1 + 1, L + 1, lr, l0, od, os, rts, rk, rows, tn, tm, te, td⟩ spl tul svs tvs lvs uvs trv k1 k2 k3 k4 k5 oj) l9) (q2 : List.Sublist ([((L + 1 + 1 + 1 : Nat), od), ((L + 1 : Nat), os), (lr, listO rts rk), (Ds, listO sds sk)] ++ own) l9) =>
    k _ _ rfl (G2.walk (tk' := tk0) (rb _ _ F9 (news_sub N9 q2)) (canon2 (base := Fx.base ⟨PN, f, sp, tu, tr, L + 1 + 1 + 1 + 1, L + 1 + 1 + 1, L + 1, lr, l0, od, os, rts, rk, rows, tn, tm, te, td⟩ ⟨w, g, c, L, D, q, e1, de1, L1, e2, de2, L2⟩) F9 rfl rfl rfl (fun y y1 y2 y3 y4 y5 y6 y7 y8 y9 y10 y11 y12 y13 y14 y15 => by
      unfold lawMap
      simp only [if_neg y1, if_neg y2, if_neg y3, if_neg y4, if_neg y5, if_neg y6, if_neg y7, if_neg y8, if_neg y9, if_neg y10, if_neg y11, if_neg y12, if_neg y13, if_neg y14, if_neg y15])) (news_sub N9 q1) rfl) (fun a ha hn o ho => (rb _ _ F9 (news_sub N9 q2)) a o hn (A2.mod _ _ (fun y => G.ap _ (List.mem_singleton.mp y ▸ .head _) ha) (A1.mod _ _ (fun y => G.ap _ (List.mem_singleton.mp y ▸ .head _) ha) ho)))
  have any0 : tB = false → ((win (heapsOf D.est (tuI ++ [tuL])) an).any fun hp => hp.any (· == (i : Int))) = false := fun e9 => by
    cases q9 : ((win (heapsOf D.est (tuI ++ [tuL])) an).any fun hp => hp.any (· == (i : Int))) with
    | false => rfl
    | true =>
      obtain ⟨hp, h1, h2⟩ := List.any_eq_true.mp q9
      obtain ⟨y, h3, h4⟩ := List.any_eq_true.mp h2
      rw [beq_iff_eq.mp h4] at h3
      have := told_of_mem (rows := rows) h1 h3
      rw [← etB, e9] at this
      cases this
  by_cases hz1 : z = 1
  · have hA9 := trt (by rw [hz, hz1])
    subst hz1
    subst hA9
    cases tB with
    | true =>
      walk_at "bf u1"
      exact fin _ _ _ N3 F3 (by unfold cells6; walk_at "bf sub") (by walk_at "bf sub")
    | false =>
      walk_at "bf u1"
      walk_at "bf comp"
      walk_at "bf src"
      refine LCg.CompSrc.ledger rfl F3 N3 (show (Ds, listO sds sk) ∈ _ by k_mem) (by rw [PySem.sizeLine_eq, List.size_toArray]; omega) ?_
      intro g'
      refine kcb_rest (fun n => ((win (heapsOf D.est (tuI ++ [tuL])) an).getD n []).any (· == (i : Int))) ?celt ?cfin
      case celt =>
        intro n v9 Iq oI C oC D2 m₂ ys h5 tk5 E' hn hv5 hC hx F7 N7 off ne
        obtain ⟨r9, vs9, k9, ns9, rfl, hw9, hs9, hi9⟩ := hNs.get (show sds[n]? = some v9 by simpa using hv5)
        have e9 : (win (heapsOf D.est (tuI ++ [tuL])) an).getD n [] = ns9 := by rw [List.getD_eq_getElem?_getD, hw9]; rfl
        rw [e9]
        have M9 := rb _ _ F7 (news_sub N7 (by walk_at "bf sub"))
        have hr9 : h5.IsList r9 vs9.toArray := ⟨_, G2.stabM M9 hs9, rfl, _, rfl⟩
        have off6 := off
        have N7' := N7
        clear F3 N3
        (try simp only [LCg.Off3, and_true] at off)
        walk_at "bf u1"
        refine in_list_ints hr9 hi9 ?_
        walk_at "bf u1"
        all_goals exact LCg.CompEnd.intro F7 N7' _ (fun p hp => hp) off6 (.inr ⟨_, (show (Ds, listO sds sk) ∈ _ by k_mem), rfl, _, rfl⟩) ⟨rfl, rfl⟩
      case cfin =>
        intro ys2 hb2
        have eany : ((List.range sds.toArray.size).map fun n => ((win (heapsOf D.est (tuI ++ [tuL])) an).getD n []).any (· == (i : Int))).any id = false := by
          rw [List.size_toArray, hNs.len, List.any_map]
          have e8 := any0 rfl
          rw [List.any_eq_false] at e8 ⊢
          intro n hn
          have hn' := List.mem_range.mp hn
          rw [show (id ∘ fun n => ((win (heapsOf D.est (tuI ++ [tuL])) an).getD n []).any (· == (i : Int))) n = ((win (heapsOf D.est (tuI ++ [tuL])) an).getD n []).any (· == (i : Int)) from rfl, List.getD_eq_getElem?_getD, List.getElem?_eq_getElem hn']
          exact e8 _ (List.getElem_mem hn')
        clear F3 N3
        walk_at "bf u1"
        refine LSm.any_bools (by k_asm) (by k_asm) (by rfl) (News.isList (by k_asm) (by k_mem)) hb2 ?_
        intro h8 tk8 F8 N8
        rw [eany]
        walk_at "bf u1"
        exact fin _ _ _ N8 F8 (by unfold cells6; walk_at "bf sub") (by walk_at "bf sub")
  · cases tB with
    | true =>
      walk_at "bf u1"
      exact fin _ _ _ N3 F3 (by unfold cells6; walk_at "bf sub") (by walk_at "bf sub")
    | false =>
      walk_at "bf u1"
      walk_at "bf comp"
      walk_at "bf src"
      refine LCg.CompSrc.ledger rfl F3 N3 (show (Ds, listO sds sk) ∈ _ by k_mem) (by rw [PySem.sizeLine_eq, List.size_toArray]; omega) ?_
      intro g'
      refine kcb_rest (fun n => ((win (heapsOf D.est (tuI ++ [tuL])) an).getD n []).any (· == (i : Int))) ?celt ?cfin
      case celt =>
        intro n v9 Iq oI C oC D2 m₂ ys h5 tk5 E' hn hv5 hC hx F7 N7 off ne
        obtain ⟨r9, vs9, k9, ns9, rfl, hw9, hs9, hi9⟩ := hNs.get (show sds[n]? = some v9 by simpa using hv5)
        have e9 : (win (heapsOf D.est (tuI ++ [tuL])) an).getD n [] = ns9 := by rw [List.getD_eq_getElem?_getD, hw9]; rfl
        rw [e9]
        have M9 := rb _ _ F7 (news_sub N7 (by walk_at "bf sub"))
        have hr9 : h5.IsList r9 vs9.toArray := ⟨_, G2.stabM M9 hs9, rfl, _, rfl⟩
        have off6 := off
        have N7' := N7
        clear F3 N3
        (try simp only [LCg.Off3, and_true] at off)
        walk_at "bf u1"
        refine in_list_ints hr9 hi9 ?_
        walk_at "bf u1"
        all_goals exact LCg.CompEnd.intro F7 N7' _ (fun p hp => hp) off6 (.inr ⟨_, (show (Ds, listO sds sk) ∈ _ by k_mem), rfl, _, rfl⟩) ⟨rfl, rfl⟩
      case cfin =>
        intro ys2 hb2
        have eany : ((List.range sds.toArray.size).map fun n => ((win (heapsOf D.est (tuI ++ [tuL])) an).getD n []).any (· == (i : Int))).any id = false := by
          rw [List.size_toArray, hNs.len, List.any_map]
          have e8 := any0 rfl
          rw [List.any_eq_false] at e8 ⊢
          intro n hn
          have hn' := List.mem_range.mp hn
          rw [show (id ∘ fun n => ((win (heapsOf D.est (tuI ++ [tuL])) an).getD n []).any (· == (i : Int))) n = ((win (heapsOf D.est (tuI ++ [tuL])) an).getD n []).any (· == (i : Int)) from rfl, List.getD_eq_getElem?_getD, List.getElem?_eq_getElem hn']
          exact e8 _ (List.getElem_mem hn')
        clear F3 N3
        walk_at "bf u1"
        refine LSm.any_bools (by k_asm) (by k_asm) (by rfl) (News.isList (by k_asm) (by k_mem)) hb2 ?_
        intro h8 tk8 F8 N8
        rw [eany]
        walk_at "bf u1"
        exact fin _ _ _ N8 F8 (by unfold cells6; walk_at "bf sub") (by walk_at "bf sub")
end
section
local macro_rules | `(tactic| walk_at "bf sub") => `(tactic| (repeat (first | exact List.Sublist.refl _ | exact List.nil_sublist _ | refine List.Sublist.cons₂ _ ?_ | refine List.Sublist.cons _ ?_)))
local macro_rules | `(tactic| walk_at "bf u1") => `(tactic| repeat' (first | ((fail_if_success (with_reducible show wpAny _ _ (call (Value.ref _) _) _ _ _)); (fail_if_success (with_reducible show wpAny _ _ (compareOp CmpOp.In (Value.str _ _) (Value.ref _)) _ _ _)); (fail_if_success (with_reducible show wpAny _ _ (compareOp CmpOp.In (Value.int _ _) (Value.ref _)) _ _ _)); (fail_if_success (with_reducible show wpAny _ _ (call (Value.builtin "any") _) _ _ _)); (fail_if_success (with_reducible show wpAny _ _ (execs [PySem.Stmt.If (PySem.Expr.Compare _ _ _ _) _ _ _] _) _ _ _)); (fail_if_success (with_reducible show wpAny _ _ (compareOp CmpOp.NotEq (Value.ref _) (Value.ref _)) _ _ _)); (fail_if_success (with_reducible show wpAny _ _ (subscriptTail _ _ (Value.ref _) (Value.int _ _)) _ _ _)); (fail_if_success (with_reducible show wpAny _ _ (eval (PySem.Expr.ListComp _ _ _ _) _) _ _ _)); (first | (k_unfold; (try dsimp only)) | (walk1 <;> (try dsimp only)))) | fail "no step"))
local macro_rules | `(tactic| walk_at "bf src") => `(tactic| repeat' (first | ((with_reducible show wpAny _ _ _ _ _ _); (walk1 <;> (try dsimp only))) | fail "no step"))
theorem seg12b {s0 : Shared} {K : Cst} {x : Fx} {A : Around} {X : List Addr} {s : Shared} {Q : Flow → Shared → Prop} {stb : List (Addr × Obj)} {t1 t2 : Int} {b1 b2 : List BH} {v : Vars} {an : Nat} {ta : Tok} {pu : Int} {tp : Tok} {spI : List (List Int)} {spL : List Int} {tuI : List (List Int)} {tuL tried : List Int}
    {spl tul : Addr} {svs tvs lvs uvs trv : List Value} {k1 k2 k3 k4 k5 : Nat} {oj : Obj} {Ds : Addr} {sds : List Value} {sk m i : Nat} {tky tj : Tok}
    (LA : LawAt K x A) (hrw : x.rows = rowsAt x.PN K.D.nh K.D.bits) (I : Inv K x m b1 b2 t1 t2 pu an spI spL tuI tuL tried) (hm : m < 20) (hi : i < 5)
    (hDs : (Ds, listO sds sk) ∈ stb) (hNs : Nest (fun a o => (a, o) ∈ stb) sds (win (heapsOf K.D.est (tuI ++ [tuL])) an)) (nsp : Nest (fun a o => (a, o) ∈ stb) svs spI) (isp : IntsAre lvs spL) (itr : IntsAre trv tried) (nd : [x.sp, spl, x.tu, tul, x.tr, x.cj].Nodup) (fx : ∀ p ∈ fix3 x, p ∈ stb) (nro : Nest (fun a o => (a, o) ∈ stb) x.rts x.rows)
    (hj : oj.data = .cell (some (.int (i : Nat) tj))) (hv : v.key = some (.str ⟨#[97 + i]⟩ tky))
    (G : GS s0 K X stb t1 t2 b1 b2 (map2 (x.base K) v (an : Nat) ta pu tp (.ref Ds) (some (.bool (toldP (heapsOf K.D.est (spI ++ [spL])) x.rows (x.rows.getD i [])))) (some (.bool (toldP (win (heapsOf K.D.est (tuI ++ [tuL])) an) x.rows (x.rows.getD i []))))) (cells6 x spl tul svs tvs lvs uvs trv k1 k2 k3 k4 k5 oj) s)
    {st0 st1 : List Stmt} (hst0 : st0 = (forBody 12 (bodyAt (hd1.heap_39 K.w.params) 557)).drop 2) (hst1 : st1 = [])
    (k : ∀ s', GS s0 K X stb t1 t2 b1 b2 (map2 (x.base K) v (an : Nat) ta pu tp (.ref Ds) (some (.bool (toldP (heapsOf K.D.est (spI ++ [spL])) x.rows (x.rows.getD i [])))) (some (.bool (toldP (win (heapsOf K.D.est (tuI ++ [tuL])) an) x.rows (x.rows.getD i []))))) (cells6 x spl tul svs tvs lvs uvs trv k1 k2 k3 k4 k5 oj) s' →
      (∀ a ∈ X, a ∉ K.L :: (cells6 x spl tul svs tvs lvs uvs trv k1 k2 k3 k4 k5 oj).map (·.1) → ∀ o, s.heap.get? a = some o → s'.heap.get? a = some o) → Q .next s') :
    wpAny (model PySem.Challenge.rw_sv0019_01.row.prog K.w) (A.deeper (lawEnv K.w K.L)) (execs st0 (lawEnv K.w K.L)) Q (fun _ _ => False) s := by
  have P := I.plain hm
  obtain ⟨hA, ehA⟩ : ∃ b, b = toldP (heapsOf K.D.est (spI ++ [spL])) x.rows (x.rows.getD i []) := ⟨_, rfl⟩
  obtain ⟨tB, etB⟩ : ∃ b, b = toldP (win (heapsOf K.D.est (tuI ++ [tuL])) an) x.rows (x.rows.getD i []) := ⟨_, rfl⟩
  rw [← ehA, ← etB] at G
  have hb1 := I.l1
  have hb2 := I.l2
  obtain ⟨z1, z2, z3, z4⟩ := P
  subst hst0
  subst hst1
  revert k
  obtain ⟨hr, hfr, XK, ⟨p₁, loose, mean, mg, mb, T⟩, ok, hf, ff, HFs, ⟨sm1, sm2, sm3⟩, hq, hrows, hod, hos, ⟨ad1, ad2, ad3⟩⟩ := LA
  obtain ⟨w, g, c, L, D, q, e1, de1, L1, e2, de2, L2⟩ := K
  obtain ⟨PN, f, sp, tu, tr, cj, cd, cs, lr, l0, od, os, rts, rk, rows, tn, tm, te, td⟩ := x
  obtain ⟨vt, vx, vkind, vkey, vrow, vforced, vbegun, vpopped, vheaps, vsaid⟩ := v
  dsimp only at *
  subst hv
  subst ad1 ad2 ad3
  obtain ⟨hd0, dp0, fr0, gd0, un0⟩ := A
  obtain rfl : hd0 = none := hr.hd
  refine' with_lookup (K := hd1.heap_39 w.params) (f := 557) ?ho ?_
  case ho => k_is
  intro hB hS
  unfold lawEnv
  rw [hB, hS]
  dsimp only [forBody, List.getElem?_cons_succ, List.getElem?_cons_zero, List.drop_succ_cons, List.drop_zero]
  (try rw [← ehA, ← etB])
  intro k
  clear hB hS
  have O0 : Wd w g := ⟨XK, _, _, _, _, _, T⟩
  obtain ⟨⟨a1, a2, a3, a4, a5⟩, ⟨a6, a7, a8, a9⟩, ⟨a10, a11, a12⟩, ⟨a13, a14⟩, a15⟩ := nodup6 nd
  obtain ⟨⟨c1, c2, c3, c4, c5⟩, ⟨c6, c7, c8, c9, c10⟩, ⟨c11, c12, c13, c14, c15, c16⟩⟩ := apart93 G fx
  dsimp only at a1 a2 a3 a4 a5 a6 a7 a8 a9 a10 a11 a12 a13 a14 a15 c1 c2 c3 c4 c5 c6 c7 c8 c9 c10 c11 c12 c13 c14 c15 c16
  have fix4 : ∀ p ∈ [((L + 1 + 1 + 1 : Nat), od), ((L + 1 : Nat), os), (lr, listO rts rk), (Ds, listO sds sk)], p ∈ stb := fun p hp => by
    rcases List.mem_append.mp (show p ∈ [((L + 1 + 1 + 1 : Nat), od), ((L + 1 : Nat), os), (lr, listO rts rk)] ++ [(Ds, listO sds sk)] from hp) with hp | hp
    · exact fx p hp
    · rw [List.mem_singleton.mp hp]; exact hDs
  have N0 := G.news _ fix4
  obtain ⟨own, N, hoff, rb, rn⟩ := rebase2 G.fr N0
  have F := G.fr
  unfold map2 lawMap at F
  simp only [cells6] at hoff
  simp only [cells6, List.cons_append, List.nil_append] at N
  have few := heaps_few (n := D.est) z1 fun l hl => (z2 l hl).1
  have few3 := heaps_few (n := D.est) z3 fun l hl => (z4 l hl).1
  have han := I.an1
  (try dsimp only at han)
  have hrr : rows.length = 5 := by rw [hrw]; simp [rowsAt]
  have rl := nro.len
  (try dsimp only at rl)
  obtain ⟨va, hva⟩ : ∃ va, rts[i]? = some va := ⟨_, List.getElem?_eq_getElem (by omega)⟩
  clear hb2
  obtain ⟨ra, rvs, rrk, rns, rfl, hr2, hb2, hi2⟩ := nro.get hva
  have hrg : rows.getD i [] = rns := by rw [List.getD_eq_getElem?_getD, hr2]; rfl
  rw [← hrg] at hi2
  walk_at "bf u1"
  rename Fr _ _ _ _ => F1
  rename News _ _ _ _ => N1
  have M1 := rb _ _ F1 (news_sub N1 (by walk_at "bf sub"))
  refine wpAny_call ?_
  refine heaps_spec (spans := spI ++ [spL]) (Wd.keeps O0 F1.keep) (hr.down 146).deeper (N1 (sp, listO (svs ++ [.ref spl]) k1) (by k_mem)).1 (Nest.append (nsp.mono fun a o z => G.stabM M1 z) (.cons (N1 (spl, listO lvs k2) (by k_mem)).1 isp .nil)) ⟨ok.est, by omega⟩ (by simp; omega) (fun l hl => by have := (z2 l hl).1; omega) ?_
  intro Dh hys h2 tk2 M2 nD hD hN
  (try dsimp only at M2 nD)
  have F2 := fr_mod0 F1 M2
  have N2 := news_add (news_mod0 N1 M2) hD (fr_new F1 nD)
  clear F1 N1
  (try clear F)
  (try clear N)
  walk_at "bf u1"
  refine item_at (News.isList N2 (show (lr, listO rts rk) ∈ _ by k_mem)) (by omega) (by rw [Int.toNat_natCast]; exact hva) (by omega) ?_
  walk_at "bf u1"
  have M2' := rb _ _ F2 (news_sub N2 (by walk_at "bf sub"))
  refine wpAny_call ?_
  refine told_spec (heaps := heapsOf D.est (spI ++ [spL])) (rows := rows) (row := rows.getD i []) (Wd.keeps O0 F2.keep) (hr.down 146).deeper hD (hN.mono fun a o z => z.1) (N2 (lr, listO rts rk) (by k_mem)).1 (nro.mono fun a o z => G.stabM M2' z) (G.stabM M2' hb2) hi2 (fun hp hh jj hjj => by rw [hrr]; exact heaps_in (fun l hl => (z2 l hl).2) hp hh jj hjj) (Nat.lt_trans few (by decide)) (fun l hl => Nat.lt_trans (heaps_el (fun l hl => (z2 l hl).1) hl) (by decide)) (by omega) (by rw [hrw]; exact rows_len sm1) (by rw [hrw]; exact row_len sm1) ?_
  intro h3 tk3 M3
  (try dsimp only at M3)
  rw [← ehA]
  have F3 := fr_mod0 F2 M3
  have N3 := news_mod0 N2 M3
  clear F2 N2
  walk_at "bf u1"
  refine item_at (News.isList N3 (show (lr, listO rts rk) ∈ _ by k_mem)) (by omega) (by rw [Int.toNat_natCast]; exact hva) (by omega) ?_
  walk_at "bf u1"
  have M3' := rb _ _ F3 (news_sub N3 (by walk_at "bf sub"))
  refine wpAny_call ?_
  refine told_spec (heaps := win (heapsOf D.est (tuI ++ [tuL])) an) (rows := rows) (row := rows.getD i []) (Wd.keeps O0 F3.keep) (hr.down 146).deeper (N3 (Ds, listO sds sk) (by k_mem)).1 (hNs.mono fun a o z => G.stabM M3' z) (N3 (lr, listO rts rk) (by k_mem)).1 (nro.mono fun a o z => G.stabM M3' z) (G.stabM M3' hb2) hi2 (fun hp hh jj hjj => by rw [hrr]; exact heaps_in (fun l hl => (z4 l hl).2) hp (List.mem_of_mem_drop hh) jj hjj) (by rw [win_len han.2]; omega) (fun l hl => Nat.lt_trans (heaps_el (fun l hl => (z4 l hl).1) (List.mem_of_mem_drop hl)) (by decide)) (by omega) (by rw [hrw]; exact rows_len sm1) (by rw [hrw]; exact row_len sm1) ?_
  intro h4 tk4 M4
  (try dsimp only at M4)
  rw [← etB]
  have F4 := fr_mod0 F3 M4
  have N4 := news_mod0 N3 M4
  clear F3 N3
  walk_at "bf u1"
  rename Fr _ _ _ _ => F5
  rename News _ _ _ _ => N5
  refine ne_bools (bs := [hA, tB]) (cs := [hA, tB]) (News.isList N5 (.tail _ (.tail _ (.head _)))) (News.isList N5 (.head _)) (Nat.lt_of_le_of_lt (Nat.add_le_add_left (by decide) _) ((hr.down 142).deeper).units) ?_
  simp only [decide_true, Bool.not_true]
  walk_at "bf u1"
  have M5 := rb _ _ F5 (news_sub N5 (by walk_at "bf sub"))
  exact k _ (G.walk M5 F5 (news_sub N5 (by unfold cells6; walk_at "bf sub")) rfl) (fun a ha hn o ho => M5 a o hn ho)
end
section
local macro_rules | `(tactic| walk_at "bf sub") => `(tactic| (repeat (first | exact List.Sublist.refl _ | exact List.nil_sublist _ | refine List.Sublist.cons₂ _ ?_ | refine List.Sublist.cons _ ?_)))
local macro_rules | `(tactic| walk_at "bf l2") => `(tactic| repeat' (first | ((fail_if_success (with_reducible show wpAny _ _ (call (Value.type "enumerate") _) _ _ _)); (fail_if_success (with_reducible show wpAny _ _ (getAttr (Value.ref _) _ _) _ _ _)); (fail_if_success (with_reducible show wpAny _ _ (execs (PySem.Stmt.Assign _ _ _ :: _) _) _ _ _)); (first | (k_unfold; (try dsimp only)) | (walk1 <;> (try dsimp only)))) | fail "no step"))
section
variable {s0 : Shared} {K : Cst} {X Xs W : List Addr} {stb : List (Addr × Obj)} {t1 t2 : Int} {b1 b2 : List BH} {m : Str → Option Value} {cells : List (Addr × Obj)} {s : Shared} {h' : Heap} {tk' : Nat}
theorem GS.growX (Z : GS s0 K X stb t1 t2 b1 b2 m cells s) (M : Mod [] s.heap h') (n : ∀ a ∈ Xs, s.heap.get? a = none ∧ ∃ o, h'.get? a = some o) : GS s0 K (Xs ++ X) stb t1 t2 b1 b2 m cells { s with heap := h', toks := tk' } := by
  refine Z.walkN (M.mono fun _ z => nomatch z) (fr_mod0 Z.fr M) (news_mod0 Z.nw M) (fun a ha => ?_) (List.mem_append_right _ Z.hL) (fun p hp => List.mem_append_right _ (Z.hX p hp)) (Z.sbX (M.mono fun _ z => nomatch z) fun a ha => ?_)
  · rcases List.mem_append.mp ha with ha | ha
    · exact ⟨.inr (n a ha).1, (n a ha).2⟩
    · obtain ⟨o, e⟩ := (Z.x0 a ha).2
      exact ⟨.inl ha, o, M _ _ (fun z => nomatch z) e⟩
  · rcases List.mem_append.mp ha with ha | ha
    · exact .inr (n a ha).1
    · exact .inl ha
theorem GS.iterX (Z : GS s0 K (Xs ++ X) stb t1 t2 b1 b2 m cells s) (M : Mod W s.heap h') (hW : ∀ a ∈ W, a ∈ Xs) (live : ∀ a ∈ Xs, ∃ o, h'.get? a = some o) (off : ∀ a ∈ Xs, a ≠ K.L ∧ a ∉ cells.map (·.1) ∧ a ∉ X) : GS s0 K (Xs ++ X) stb t1 t2 b1 b2 m cells { s with heap := h', toks := tk' } := by
  have MX : Mod (Xs ++ X) s.heap h' := M.mono fun a ha => List.mem_append_left _ (hW a ha)
  refine Z.walkN MX (fr_mod Z.fr M (fun z => (off _ (hW _ z)).1 rfl) (fun a ha => Z.cg (Z.x0 a (List.mem_append_left _ (hW a ha))).1)) (news_mod Z.nw M (fun p hp z => (off _ (hW _ z)).2.1 (List.mem_map_of_mem hp))) (fun a ha => ⟨.inl ha, ?_⟩) Z.hL Z.hX (Z.sbX MX fun a ha => .inl ha)
  rcases List.mem_append.mp ha with ha | ha
  · exact live a ha
  · obtain ⟨o, e⟩ := (Z.x0 a (List.mem_append_right _ ha)).2
    exact ⟨o, M _ _ (fun z => (off a (hW a z)).2.2 ha) e⟩
theorem GS.shedX (Z : GS s0 K (Xs ++ X) stb t1 t2 b1 b2 m cells s) (M : Mod W s.heap h') (hW : ∀ a ∈ W, a ∈ Xs) (off : ∀ a ∈ Xs, a ≠ K.L ∧ a ∉ cells.map (·.1) ∧ a ∉ X) (hL : K.L ∈ X) (hc : ∀ p ∈ cells, p.1 ∈ X) : GS s0 K X stb t1 t2 b1 b2 m cells { s with heap := h', toks := tk' } := by
  have MX : Mod (Xs ++ X) s.heap h' := M.mono fun a ha => List.mem_append_left _ (hW a ha)
  refine Z.walkN MX (fr_mod Z.fr M (fun z => (off _ (hW _ z)).1 rfl) (fun a ha => Z.cg (Z.x0 a (List.mem_append_left _ (hW a ha))).1)) (news_mod Z.nw M (fun p hp z => (off _ (hW _ z)).2.1 (List.mem_map_of_mem hp))) (fun a ha => ⟨.inl (List.mem_append_right _ ha), ?_⟩) hL hc (Z.sbX MX fun a ha => .inl (List.mem_append_right _ ha))
  obtain ⟨o, e⟩ := (Z.x0 a (List.mem_append_right _ ha)).2
  exact ⟨o, M _ _ (fun z => (off a (hW a z)).2.2 ha) e⟩
end
theorem letters5 {i c : Nat} (h : (Str.ofString "abcde").cps[i]? = some c) : i < 5 ∧ c = 97 + i := by
  have e : (Str.ofString "abcde").cps = #[97, 98, 99, 100, 101] := by decide +kernel
  rw [e] at h
  have hi : i < 5 := by
    have := (Array.getElem?_eq_some_iff.mp h).1
    simpa using this
  refine ⟨hi, ?_⟩
  have : i = 0 ∨ i = 1 ∨ i = 2 ∨ i = 3 ∨ i = 4 := by omega
  rcases this with rfl | rfl | rfl | rfl | rfl <;> (simp at h; omega)
theorem loop2 {s0 : Shared} {K : Cst} {x : Fx} {A : Around} {s : Shared} {Q : Flow → Shared → Prop} {stb : List (Addr × Obj)} {t1 t2 : Int} {b1 b2 : List BH} {v : Vars} {an : Nat} {ta : Tok} {pu : Int} {tp : Tok} {spI : List (List Int)} {spL : List Int} {tuI : List (List Int)} {tuL tried : List Int}
    {spl tul : Addr} {svs tvs lvs uvs trv : List Value} {k1 k2 k3 k4 k5 : Nat} {oj : Obj} {Ds : Addr} {sds : List Value} {sk m : Nat} {u1 u2 xj : Option Value}
    (LA : LawAt K x A) (hrw : x.rows = rowsAt x.PN K.D.nh K.D.bits) (I : Inv K x m b1 b2 t1 t2 pu an spI spL tuI tuL tried) (hm : m < 20)
    (hDs : (Ds, listO sds sk) ∈ stb) (hNs : Nest (fun a o => (a, o) ∈ stb) sds (win (heapsOf K.D.est (tuI ++ [tuL])) an)) (nsp : Nest (fun a o => (a, o) ∈ stb) svs spI) (isp : IntsAre lvs spL) (itr : IntsAre trv tried) (nd : [x.sp, spl, x.tu, tul, x.tr, x.cj].Nodup) (fx : ∀ p ∈ fix3 x, p ∈ stb) (nro : Nest (fun a o => (a, o) ∈ stb) x.rts x.rows)
    (hj : oj.data = .cell xj)
    (G : GS s0 K [K.L, x.sp, spl, x.tu, tul, x.tr, x.cj] stb t1 t2 b1 b2 (map2 (x.base K) v (an : Nat) ta pu tp (.ref Ds) u1 u2) (cells6 x spl tul svs tvs lvs uvs trv k1 k2 k3 k4 k5 oj) s)
    {st0 : List Stmt} (hst0 : st0 = (bodyAt (hd1.heap_39 K.w.params) 557).drop 12)
    (k : ∀ X' m' cells' s', GS s0 K X' stb t1 t2 b1 b2 m' cells' s' → Q (.ret (.bool true)) s') :
    wpAny (model PySem.Challenge.rw_sv0019_01.row.prog K.w) (A.deeper (lawEnv K.w K.L)) (execs st0 (lawEnv K.w K.L)) Q (fun _ _ => False) s := by
  obtain ⟨fb0, hfb0⟩ : ∃ z, z = forBody 12 (bodyAt (hd1.heap_39 K.w.params) 557) := ⟨_, rfl⟩
  obtain ⟨fb1, hfb1⟩ : ∃ z, z = (forBody 12 (bodyAt (hd1.heap_39 K.w.params) 557)).drop 2 := ⟨_, rfl⟩
  have hT := fun (X : List Addr) (s : Shared) (Q : Flow → Shared → Prop) (v : Vars) (oj : Obj) (i : Nat) (u1 u2 : Option Value) (tky tj : Tok) (hi : i < 5) (hj : oj.data = .cell (some (.int (i : Nat) tj))) (hv : v.key = some (.str ⟨#[97 + i]⟩ tky))
      (G : GS s0 K X stb t1 t2 b1 b2 (map2 (x.base K) v (an : Nat) ta pu tp (.ref Ds) u1 u2) (cells6 x spl tul svs tvs lvs uvs trv k1 k2 k3 k4 k5 oj) s)
      (kk : ∀ v' u1' u2' s', GS s0 K X stb t1 t2 b1 b2 (map2 (x.base K) v' (an : Nat) ta pu tp (.ref Ds) u1' u2') (cells6 x spl tul svs tvs lvs uvs trv k1 k2 k3 k4 k5 oj) s' → (∀ a ∈ X, a ∉ K.L :: (cells6 x spl tul svs tvs lvs uvs trv k1 k2 k3 k4 k5 oj).map (·.1) → ∀ o, s.heap.get? a = some o → s'.heap.get? a = some o) → Q .next s') =>
    seg12a (Q := Q) LA hrw I hm hi hDs hNs nsp isp itr nd fx nro hj hv G (st0 := fb0) hfb0 hfb1 (fun v' s' e9 G' kp => seg12b (Q := Q) LA hrw I hm hi hDs hNs nsp isp itr nd fx nro hj (e9.trans hv) G' hfb1 rfl (fun s2 G2 kp2 => kk _ _ _ s2 G2 (fun a ha hn o ho => kp2 a ha hn o (kp a ha hn o ho))))
  clear hfb1
  subst hfb0
  have hb2 := I.l2
  have hand := I.an1
  subst hst0
  revert k hT
  obtain ⟨hr, hfr, XK, ⟨p₁, loose, mean, mg, mb, T⟩, ok, hf, ff, HFs, ⟨sm1, sm2, sm3⟩, hq, hrows, hod, hos, ⟨ad1, ad2, ad3⟩⟩ := LA
  obtain ⟨hd0, dp0, fr0, gd0, un0⟩ := A
  obtain rfl : hd0 = none := hr.hd
  refine' with_lookup (K := hd1.heap_39 K.w.params) (f := 557) ?ho ?_
  case ho => k_is
  intro hB hS
  unfold lawEnv
  rw [hB, hS]
  dsimp only [forBody, List.getElem?_cons_succ, List.getElem?_cons_zero, List.drop_succ_cons, List.drop_zero]
  intro k hT
  clear hB hS
  have F := G.fr
  have N : News K.g K.L s.heap [] := News.nil
  (walk1; (try dsimp only))
  refine For_enumS (xs := Str.ofString "abcde") (tx := x.tn) rfl (fun e it i s' => ∃ v oj u1 u2 xj, oj.data = .cell xj ∧ (∀ a ∈ [e, it], a ∉ [K.L, x.sp, spl, x.tu, tul, x.tr, x.cj]) ∧ GS s0 K ([e, it] ++ [K.L, x.sp, spl, x.tu, tul, x.tr, x.cj]) stb t1 t2 b1 b2 (map2 (x.base K) v (an : Nat) ta pu tp (.ref Ds) u1 u2) (cells6 x spl tul svs tvs lvs uvs trv k1 k2 k3 k4 k5 oj) s') ?start ?turn ?done
  case start =>
    unfold map2 lawMap at F
    walk_at "bf l2"
    refine call_enumerate_str fun h2 hE2 hI2 hsz2 hk2 => ?_
    rw [show strIterType (Str.ofString "abcde") = "str_ascii_iterator" by decide +kernel] at hI2
    have fr2 : ∀ a ∈ [s.heap.objs.size + 1, s.heap.objs.size], s.heap.get? a = none ∧ ∃ o, h2.get? a = some o := fun a ha => by
      rcases List.mem_cons.mp ha with rfl | ha
      · exact ⟨Heap.get?_none_of_le (Nat.le_succ _), _, hE2⟩
      · rw [List.mem_singleton.mp ha]
        obtain ⟨o, e, _⟩ := hI2
        exact ⟨Heap.get?_none_of_le (Nat.le_refl _), o, e⟩
    refine ⟨_, _, rfl, hE2, hI2, Nat.succ_ne_self _, v, oj, u1, u2, xj, hj, fun a ha z => ?_, G.growX (fun b o _ e => hk2 b o e) fr2⟩
    obtain ⟨o, e⟩ := (G.x0 a z).2
    rw [(fr2 a ha).1] at e; cases e
  case turn =>
    intro e it i c9 u9 t9 T9 s9 h9 tk9 hc nT hT9 J live M
    obtain ⟨hi5, rfl⟩ := letters5 hc
    obtain ⟨v2, oj2, u12, u22, xj2, hj2, hof, G2⟩ := J
    have off : ∀ a ∈ [e, it], a ≠ K.L ∧ a ∉ (cells6 x spl tul svs tvs lvs uvs trv k1 k2 k3 k4 k5 oj2).map (·.1) ∧ a ∉ [K.L, x.sp, spl, x.tu, tul, x.tr, x.cj] := fun a ha => ⟨fun z => hof a ha (z ▸ .head _), fun z => hof a ha (.tail _ z), hof a ha⟩
    have G3 := GS.iterX (tk' := tk9) G2 M (fun a ha => ha) live off
    clear F N
    obtain ⟨⟨a1, a2, a3, a4, a5⟩, ⟨a6, a7, a8, a9⟩, ⟨a10, a11, a12⟩, ⟨a13, a14⟩, a15⟩ := nodup6 nd
    rw [ad1] at a5 a9 a12 a14 a15
    have N0 := G3.news [] (fun p hp => nomatch hp)
    obtain ⟨own, N2, hoff, rb, rn⟩ := rebase2 (fix := []) G3.fr N0
    have F2 := G3.fr
    unfold map2 lawMap at F2
    simp only [cells6, ad1] at hoff
    simp only [cells6, ad1, List.cons_append, List.nil_append] at N2
    have tupT : IsTup h9 T9 #[.int (i : Nat) t9, .str ⟨#[97 + i]⟩ u9] := hT9
    (try dsimp only at F2 N2)
    walk_at "bf l2"
    rename Fr _ _ _ _ => F3
    rename News _ _ _ _ => N3
    rename_i o9 d9 _
    have M3 := rb _ _ F3 (news_sub N3 (by walk_at "bf sub"))
    have F4 := canon2 (base := x.base K) F3 rfl rfl rfl (fun y y1 y2 y3 y4 y5 y6 y7 y8 y9 y10 y11 y12 y13 y14 y15 => by simp only [if_neg y1, if_neg y2, if_neg y3, if_neg y4, if_neg y5, if_neg y6, if_neg y7, if_neg y8, if_neg y9, if_neg y10, if_neg y11, if_neg y12, if_neg y13, if_neg y14, if_neg y15])
    have G4 := fun tk0 => G3.walk (tk' := tk0) (cells' := cells6 x spl tul svs tvs lvs uvs trv k1 k2 k3 k4 k5 o9) M3 F4 (news_sub N3 (by simp only [cells6, ad1]; walk_at "bf sub")) rfl
    refine hT _ ⟨_, _, _, _, _⟩ _ _ o9 i _ _ u9 t9 hi5 d9 rfl (G4 _) (fun v' u1' u2' s' G' kp => ⟨⟨v', o9, u1', u2', _, d9, hof, G'⟩, fun b hb o ho => kp b (List.mem_append_left _ hb) (fun z => hof b hb z) o (M3 b o (fun z => hof b hb z) ho)⟩)
  case done =>
    intro e it s9 h9 tk9 J M
    obtain ⟨v2, oj2, u12, u22, xj2, hj2, hof, G2⟩ := J
    have off : ∀ a ∈ [e, it], a ≠ K.L ∧ a ∉ (cells6 x spl tul svs tvs lvs uvs trv k1 k2 k3 k4 k5 oj2).map (·.1) ∧ a ∉ [K.L, x.sp, spl, x.tu, tul, x.tr, x.cj] := fun a ha => ⟨fun z => hof a ha (z ▸ .head _), fun z => hof a ha (.tail _ z), hof a ha⟩
    have G3 := GS.shedX (tk' := tk9) G2 M (fun a ha => ha) off (.head _) (fun p hp => .tail _ (List.mem_map_of_mem (f := (·.1)) hp))
    clear F N
    have F3 := G3.fr
    have N3 : News K.g K.L h9 [] := News.nil
    unfold map2 lawMap at F3
    (try dsimp only at F3)
    dsimp only
    walk_at "bf l2"
    refine fil_max (h₀ := K.c) G3.on (hr.down 143).deeper G3.f2 ?_
    intro u3 h4 tk4 M4
    have G4 := G3.call0 (tk' := tk4) M4
    have F4 := fr_mod0 F3 M4
    have N4 : News K.g K.L h4 [] := News.nil
    clear F3 N3
    walk_at "bf l2"
    rotate_left
    · rename ¬ _ = true => hcc
      simp at hcc
    refine fil_est (h₀ := K.c) G4.on (hr.down 143).deeper G4.f2 ?_
    intro u5 h5 tk5 M5
    have G5 := fun tk0 => G4.call0 (tk' := tk0) M5
    have F5 := fr_mod0 F4 M5
    have N5 : News K.g K.L h5 [] := News.nil
    clear F4 N4
    walk_at "bf l2"
    rw [beq_self_eq_true]
    exact k _ _ _ _ (G5 _)
end
section
local macro_rules | `(tactic| walk_at "bf none") => `(tactic| skip)
local macro_rules | `(tactic| walk_at "bf none") => `(tactic| skip)
local macro_rules | `(tactic| walk_at "bf none") => `(tactic| skip)
local macro_rules | `(tactic| walk_at "bf none") => `(tactic| skip)
local macro_rules | `(tactic| walk_at "bf sub") => `(tactic| (repeat (first | exact List.Sublist.refl _ | exact List.nil_sublist _ | refine List.Sublist.cons₂ _ ?_ | refine List.Sublist.cons _ ?_)))
local macro_rules | `(tactic| walk_at "bf h1") => `(tactic| repeat' (first | ((fail_if_success (with_reducible show wpAny _ _ (call (Value.ref _) _ _) _ _ _)); (fail_if_success (with_reducible show wpAny _ _ (call (Value.ref _) _) _ _ _)); (fail_if_success (with_reducible show wpAny _ _ (getAttr (Value.ref _) _ _) _ _ _)); (fail_if_success (with_reducible show wpAny _ _ (subscriptTail _ _ (Value.ref _) (Value.int _ _)) _ _ _)); (fail_if_success (with_reducible show wpAny _ _ (eval (PySem.Expr.ListComp _ _ _ _) _) _ _ _)); (fail_if_success (with_reducible show wpAny _ _ (execs (PySem.Stmt.For _ _ _ _ _ :: _) _) _ _ _)); (first | (k_unfold; (try dsimp only)) | (walk1 <;> (try dsimp only)))) | fail "no step"))
def nhOf (b n : Nat) : Nat := (((13862943611198906 * (b : Int)).fdiv n + 10 ^ Int.toNat 16).fdiv (2 * 10 ^ Int.toNat 16)).toNat
theorem nh_ok : ∀ b < 20, ∀ n < 5, 4 ≤ b → 1 ≤ n → (0 < nhOf b n ∧ nhOf b n < 900 ∧ ((13862943611198906 * (b : Int)).fdiv n + 10 ^ Int.toNat 16).fdiv (2 * 10 ^ Int.toNat 16) = (nhOf b n : Int)) := by decide +kernel
structure Two (w : World) (c : Heap) (D : BD) (q : Int) (e1 de1 L1 : Addr) (b1 : BH) (e2 de2 L2 : Addr) (b2 : BH) (P : List Addr) (h : Heap) : Prop where
  on : On w c h
  f1 : Fil none D c h e1 de1 L1 0 [b1]
  f2 : Fil (some q) D c h e2 de2 L2 0 [b2]
  z1 : b1.cnt = 0 ∧ b1.p = fun _ => false
  z2 : b2.cnt = 0 ∧ b2.p = fun _ => false
  dis : ∀ a ∈ ftOf e1 de1 L1 [b1], a ∉ ftOf e2 de2 L2 [b2]
  off1 : ∀ a ∈ ftOf e1 de1 L1 [b1], a ∉ P
  off2 : ∀ a ∈ ftOf e2 de2 L2 [b2], a ∉ P
local macro_rules | `(tactic| walk_at "bf h2") => `(tactic| repeat' (first | ((fail_if_success (with_reducible show wpAny _ _ (execs (PySem.Stmt.Assign _ _ _ :: _) _) _ _ _)); (first | (k_unfold; (try dsimp only)) | (walk1 <;> (try dsimp only)))) | fail "no step"))
theorem head1 {s0 : Shared} {w : World} {A : Around} {g c : Heap} {L f l0 lp : Addr} {PN : List Int} {pv : List Value} {cap : Nat} {oP oJ oD oB oS : Obj} {ps : Array Value} {s : Shared}
    {p₁ : Program} {loose : List Str} {mean : ExcName → Option Value} {mg mb : Str → Option Value} {Q : Flow → Shared → Prop}
    (hr : Room A 150) (hfr : A.frames = some []) (XK : (hd1.heap_39 w.params).In g) (T : Top p₁ loose mean mg mb g) (Oc : On w c s.heap) (gc : ∀ b o, g.get? b = some o → c.get? b = some o) (SA : SpreadAt w g c f PN) (ff : FnAt f c)
    (hc0 : ∀ a ∈ [L, 418, L, L + 1 + 1, L + 1 + 1 + 1, L + 1 + 1 + 1 + 1], c.get? a = none) (hlp : L + 1 + 1 + 1 + 1 + 1 < lp) (h418 : 418 < L) (h554 : 554 < L)
    (F : Fr g L s.heap (fun y => if y = Str.ofString "script" then some (.ref l0) else none))
    (N : News g L s.heap [(L + 1 + 1 + 1, oD), (L + 1 + 1, oB), (L + 1 + 1 + 1 + 1 + 1, oP), (L + 1 + 1 + 1 + 1, oJ), (L + 1, oS), (lp, listO pv cap), (418, tabObj #[]), (554, tabObj ps)])
    (dP : oP.data = .cell (some (.ref lp))) (dJ : oJ.data = .cell none) (dD : oD.data = .cell none) (dB : oB.data = .cell none) (dS : oS.data = .cell (some (.ref f))) (hpv : IntsAre pv PN) (hne : PN ≠ []) (hlen : PN.length ≤ 63) (kp : Kept s0 s)
    {st3 st6 : List Stmt} (hst3 : st3 = (bodyAt (hd1.heap_39 w.params) 557).drop 3) (hst6 : st6 = (bodyAt (hd1.heap_39 w.params) 557).drop 6)
    (k : ∀ (bN eN qN : Nat) e1 de1 L1 b1 e2 de2 L2 b2 oB' tb tm te h' tk', (5 ≤ bN ∧ bN ≤ 14) → (1 ≤ eN ∧ eN ≤ 4) → (1 ≤ qN ∧ qN ≤ 4) → oB'.data = .cell (some (.int (bN : Nat) tb)) →
      Fr g L h' (fun y => if y = Str.ofString "ring" then some (.ref e2) else if y = Str.ofString "wide" then some (.ref e1) else if y = Str.ofString "most" then some (.int (qN : Nat) tm) else if y = Str.ofString "est" then some (.int (eN : Nat) te) else if y = Str.ofString "script" then some (.ref l0) else none) →
      News g L h' [(L + 1 + 1 + 1, oD), (L + 1 + 1, oB'), (L + 1 + 1 + 1 + 1 + 1, oP), (L + 1 + 1 + 1 + 1, oJ), (L + 1, oS), (lp, listO pv cap), (418, tabObj #[]), (554, tabObj ps)] →
      Two w c ⟨bN, eN, nhOf bN eN, (bN + 7) / 8, .ref f⟩ (qN : Nat) e1 de1 L1 b1 e2 de2 L2 b2 [L, L + 1 + 1 + 1, L + 1 + 1, L + 1 + 1 + 1 + 1 + 1, L + 1 + 1 + 1 + 1, L + 1, lp, 418, 554] h' →
      wpAny (model PySem.Challenge.rw_sv0019_01.row.prog w) (A.deeper (lawEnv w L)) (execs st6 (lawEnv w L)) Q (fun _ _ => False) { s with heap := h', toks := tk' }) :
    wpAny (model PySem.Challenge.rw_sv0019_01.row.prog w) (A.deeper (lawEnv w L)) (execs st3 (lawEnv w L)) Q (fun _ _ => False) s := by
  subst hst3
  subst hst6
  revert k
  obtain ⟨hd0, dp0, fr0, gd0, un0⟩ := A
  obtain rfl : hd0 = none := hr.hd
  refine' with_lookup (K := hd1.heap_39 w.params) (f := 557) ?ho ?_
  case ho => k_is
  intro hB hS
  unfold lawEnv
  rw [hB, hS]
  simp only [List.drop_succ_cons, List.drop_zero]
  clear hB hS
  intro k
  have hpl : pv.length = PN.length := hpv.length
  have hps : 0 < pv.toArray.size := by rw [List.size_toArray, hpl]; exact List.length_pos_iff.mpr hne
  have hsz : pv.toArray.size = pv.length := List.size_toArray ..
  have hpl0 : 0 < PN.length := List.length_pos_iff.mpr hne
  have m1 := neN (show L + 1 + 1 ≠ 418 from Nat.ne_of_gt (Nat.lt_succ_of_lt (Nat.lt_succ_of_lt h418)))
  have m2 := neN (show L + 1 + 1 ≠ 554 from Nat.ne_of_gt (Nat.lt_succ_of_lt (Nat.lt_succ_of_lt h554)))
  have m3 := neN (show L + 1 + 1 + 1 ≠ 418 from Nat.ne_of_gt (Nat.lt_succ_of_lt (Nat.lt_succ_of_lt (Nat.lt_succ_of_lt h418))))
  have m4 := neN (show L + 1 + 1 + 1 ≠ 554 from Nat.ne_of_gt (Nat.lt_succ_of_lt (Nat.lt_succ_of_lt (Nat.lt_succ_of_lt h554))))
  have m5 := neN (show L + 1 + 1 ≠ lp from Nat.ne_of_lt (Nat.lt_of_succ_lt (Nat.lt_of_succ_lt (Nat.lt_of_succ_lt hlp))))
  have m6 := neN (show L + 1 + 1 + 1 ≠ lp from Nat.ne_of_lt (Nat.lt_of_succ_lt (Nat.lt_of_succ_lt hlp)))
  obtain ⟨own, N2, hoff, rb, rn⟩ := rebase2 (cells := [(L + 1 + 1 + 1, oD), (L + 1 + 1, oB)]) (fix := [(L + 1 + 1 + 1 + 1 + 1, oP), (L + 1 + 1 + 1 + 1, oJ), (L + 1, oS), (lp, listO pv cap), (418, tabObj #[]), (554, tabObj ps)]) F N
  simp only [List.cons_append, List.nil_append] at N2
  clear N
  walk_at "bf h1"
  refine item_ints (News.isList N2 (show (lp, listO pv cap) ∈ _ by k_mem)) hpv (by omega) (by omega) (by omega) ?_
  intro t1
  walk_at "bf h1"
  rename_i r1 q1 q2
  refine item_ints (News.isList N2 (show (lp, listO pv cap) ∈ _ by k_mem)) hpv (by omega) (by omega) (by omega) ?_
  intro t2
  walk_at "bf h1"
  rename_i r2 q3 q4
  refine item_ints (News.isList N2 (show (lp, listO pv cap) ∈ _ by k_mem)) hpv (by omega) (by omega) (by omega) ?_
  intro t3
  walk_at "bf h1"
  rename Fr _ _ _ _ => F3
  rename News _ _ _ _ => N3
  rename_i oB3 dB3 _ h3
  have four : ∀ z : Int, ∃ b : Nat, z.fmod 4 + 1 = (b : Int) ∧ 1 ≤ b ∧ b ≤ 4 := fun z => by
    have z0 := Int.fmod_nonneg_of_pos z (show (0 : Int) < 4 by decide)
    have z1 := Int.fmod_lt_of_pos z (show (0 : Int) < 4 by decide)
    exact ⟨(z.fmod 4 + 1).toNat, by omega, by omega, by omega⟩
  obtain ⟨bN, eb, hb1⟩ : ∃ b : Nat, (PN.getD (Int.toNat 0) 0).fmod 10 + 5 = (b : Int) ∧ 5 ≤ b ∧ b ≤ 14 := by
    have z0 := Int.fmod_nonneg_of_pos (PN.getD (Int.toNat 0) 0) (show (0 : Int) < 10 by decide)
    have z1 := Int.fmod_lt_of_pos (PN.getD (Int.toNat 0) 0) (show (0 : Int) < 10 by decide)
    exact ⟨((PN.getD (Int.toNat 0) 0).fmod 10 + 5).toNat, by omega, by omega, by omega⟩
  obtain ⟨eN, ee, he1⟩ := four (PN.getD (Int.toNat (r1 : Int)) 0)
  obtain ⟨qN, eq, hq1⟩ := four (PN.getD (Int.toNat (r2 : Int)) 0)
  rw [eb] at dB3
  rw [ee, eq] at F3
  rw [eb, ee]
  obtain ⟨y1, y2, y3⟩ := nh_ok bN (by omega) eN (by omega) (by omega) he1.1
  obtain ⟨D, hD⟩ : ∃ D : BD, D = ⟨bN, eN, nhOf bN eN, (bN + 7) / 8, .ref f⟩ := ⟨_, rfl⟩
  have ok : D.Ok := by
    subst hD
    exact ⟨by show 0 < bN; omega, by show bN ≤ 8 * ((bN + 7) / 8); omega, by show (bN + 7) / 8 < 1000; omega, by show nhOf bN eN < 1000; omega, by show 0 < eN; omega, by show eN < 1000; omega, rfl, by show bN < 1000; omega, y1, ⟨f, rfl⟩, y3⟩
  subst hD
  have hcW : ∀ a ∈ L :: [(L + 1 + 1 + 1, oD), (L + 1 + 1, oB)].map (·.1), c.get? a = none := fun a ha => by
    simp only [List.map_cons, List.map_nil, List.mem_cons, List.not_mem_nil, or_false] at ha
    rcases ha with rfl | rfl | rfl
    · exact hc0 _ (.head _)
    · exact hc0 _ (.tail _ (.tail _ (.tail _ (.tail _ (.head _)))))
    · exact hc0 _ (.tail _ (.tail _ (.tail _ (.head _))))
  have M3 := rb _ _ F3 (news_sub N3 (by walk_at "bf sub"))
  have O3 := Oc.mod M3 hcW
  refine wpAny_call ?_
  refine new_exp (h₀ := c) (D := ⟨bN, eN, nhOf bN eN, (bN + 7) / 8, .ref f⟩) (f := f) O3 (hr.down 108).deeper ok rfl ?_
  intro e1 de1 L1 b1 h4 tk4 M4 ne1 nd1 nL1 fb1 Fi1
  (try dsimp only at M4 ne1 nd1 nL1 Fi1 fb1)
  have F4 := fr_mod0 F3 M4
  have N4 := news_sub (l := [(L + 1 + 1 + 1, oD), (L + 1 + 1, oB3)] ++ [(L + 1 + 1 + 1 + 1 + 1, oP), (L + 1 + 1 + 1 + 1, oJ), (L + 1, oS), (lp, listO pv cap), (418, tabObj #[]), (554, tabObj ps)]) (news_mod0 N3 M4) (by walk_at "bf sub")
  have new1 : ∀ a ∈ ftOf e1 de1 L1 [b1], h3.get? a = none := fun a ha => by
    rcases List.mem_cons.mp ha with rfl | ha
    · exact ne1
    rcases List.mem_cons.mp ha with rfl | ha
    · exact nd1
    rcases List.mem_cons.mp ha with rfl | ha
    · exact nL1
    · obtain ⟨f1, f2, f3, _⟩ := fb1
      rw [feet_one] at ha
      rcases List.mem_cons.mp ha with rfl | ha
      · exact f1
      rcases List.mem_cons.mp ha with rfl | ha
      · exact f2
      · rw [List.mem_singleton.mp ha]; exact f3
  have liveW3 : ∀ a ∈ L :: [(L + 1 + 1 + 1, oD), (L + 1 + 1, oB)].map (·.1), ∃ o, h3.get? a = some o := fun a ha => by
    simp only [List.map_cons, List.map_nil, List.mem_cons, List.not_mem_nil, or_false] at ha
    rcases ha with rfl | rfl | rfl
    · obtain ⟨o, _, _, e, _⟩ := F3.ns; exact ⟨o, e⟩
    · exact ⟨_, (N3 (L + 1 + 1 + 1, oD) (by k_mem)).1⟩
    · exact ⟨_, (N3 (L + 1 + 1, oB3) (by k_mem)).1⟩
  have liveP3 : ∀ a ∈ L :: ([(L + 1 + 1 + 1, oD), (L + 1 + 1, oB3)] ++ [(L + 1 + 1 + 1 + 1 + 1, oP), (L + 1 + 1 + 1 + 1, oJ), (L + 1, oS), (lp, listO pv cap), (418, tabObj #[]), (554, tabObj ps)]).map (·.1), ∃ o, h3.get? a = some o := fun a ha => by
    rcases List.mem_cons.mp ha with rfl | ha
    · obtain ⟨o, _, _, e, _⟩ := F3.ns; exact ⟨o, e⟩
    · obtain ⟨p, hp, rfl⟩ := List.mem_map.mp ha
      exact ⟨_, (news_sub N3 (show List.Sublist _ _ by walk_at "bf sub") p hp).1⟩
  have offP1 : ∀ a ∈ ftOf e1 de1 L1 [b1], a ∉ L :: ([(L + 1 + 1 + 1, oD), (L + 1 + 1, oB3)] ++ [(L + 1 + 1 + 1 + 1 + 1, oP), (L + 1 + 1 + 1 + 1, oJ), (L + 1, oS), (lp, listO pv cap), (418, tabObj #[]), (554, tabObj ps)]).map (·.1) := fun a ha z => by
    obtain ⟨o, e⟩ := liveP3 a z
    rw [new1 a ha] at e; cases e
  have offW1 : ∀ a ∈ ftOf e1 de1 L1 [b1], a ∉ L :: [(L + 1 + 1 + 1, oD), (L + 1 + 1, oB)].map (·.1) := fun a ha z => by
    obtain ⟨o, e⟩ := liveW3 a z
    rw [new1 a ha] at e; cases e
  obtain ⟨own4, N5, hoff4, rb4, rn4⟩ := rebase2 F4 N4
  simp only [List.cons_append, List.nil_append] at N5
  clear hoff rb rn
  (try clear N3)
  (try clear F3)
  (try clear N4)
  (try dsimp only)
  walk_at "bf h1"
  rename Fr _ _ _ _ => F5
  rename News _ _ _ _ => N6
  rename Heap => h5
  have M5 := rb4 _ _ F5 (news_sub N6 (by walk_at "bf sub"))
  have hB5 : (L + 1 + 1, oB3) ∈ [(L + 1 + 1 + 1, oD), (L + 1 + 1, oB3)] := .tail _ (.head _)
  have O5 := (O3.mod M4 (fun _ z => nomatch z)).mod M5 hcW
  refine wpAny_call ?_
  refine new_rot (h₀ := c) (D := ⟨bN, eN, nhOf bN eN, (bN + 7) / 8, .ref f⟩) (f := f) (q := (qN : Int)) O5 (hr.down 102).deeper ok rfl ?_
  intro e2 de2 L2 b2 h6 tk6 M6 ne2 nd2 nL2 fb2 Fi2
  (try dsimp only at M6 ne2 nd2 nL2 Fi2 fb2)
  have F6 := fr_mod0 F5 M6
  have N6' := news_sub (l := [(L + 1 + 1 + 1, oD), (L + 1 + 1, oB3)] ++ [(L + 1 + 1 + 1 + 1 + 1, oP), (L + 1 + 1 + 1 + 1, oJ), (L + 1, oS), (lp, listO pv cap), (418, tabObj #[]), (554, tabObj ps)]) (news_mod0 N6 M6) (by walk_at "bf sub")
  have new2 : ∀ a ∈ ftOf e2 de2 L2 [b2], h5.get? a = none := fun a ha => by
    rcases List.mem_cons.mp ha with rfl | ha
    · exact ne2
    rcases List.mem_cons.mp ha with rfl | ha
    · exact nd2
    rcases List.mem_cons.mp ha with rfl | ha
    · exact nL2
    · obtain ⟨f1, f2, f3, _⟩ := fb2
      rw [feet_one] at ha
      rcases List.mem_cons.mp ha with rfl | ha
      · exact f1
      rcases List.mem_cons.mp ha with rfl | ha
      · exact f2
      · rw [List.mem_singleton.mp ha]; exact f3
  have liveW5 : ∀ a ∈ L :: ([(L + 1 + 1 + 1, oD), (L + 1 + 1, oB3)] ++ [(L + 1 + 1 + 1 + 1 + 1, oP), (L + 1 + 1 + 1 + 1, oJ), (L + 1, oS), (lp, listO pv cap), (418, tabObj #[]), (554, tabObj ps)]).map (·.1), ∃ o, h5.get? a = some o := fun a ha => by
    rcases List.mem_cons.mp ha with rfl | ha
    · obtain ⟨o, _, _, e, _⟩ := F5.ns; exact ⟨o, e⟩
    · obtain ⟨p, hp, rfl⟩ := List.mem_map.mp ha
      exact ⟨_, (news_sub N6 (show List.Sublist _ _ by walk_at "bf sub") p hp).1⟩
  obtain ⟨own6, N7, hoff6, rb6, rn6⟩ := rebase2 F6 N6'
  simp only [List.cons_append, List.nil_append] at N7
  clear hoff4 rb4 rn4
  (try clear N6)
  (try clear F5)
  (try clear N6')
  (try dsimp only)
  walk_at "bf h2"
  rename Fr _ _ _ _ => F8
  rename News _ _ _ _ => N8
  have M8 := rb6 _ _ F8 (news_sub N8 (by walk_at "bf sub"))
  have offP2 : ∀ a ∈ ftOf e2 de2 L2 [b2], a ∉ L :: ([(L + 1 + 1 + 1, oD), (L + 1 + 1, oB3)] ++ [(L + 1 + 1 + 1 + 1 + 1, oP), (L + 1 + 1 + 1 + 1, oJ), (L + 1, oS), (lp, listO pv cap), (418, tabObj #[]), (554, tabObj ps)]).map (·.1) := fun a ha z => by
    obtain ⟨o, e⟩ := liveW5 a z
    rw [new2 a ha] at e; cases e
  have subW : ∀ a ∈ L :: [(L + 1 + 1 + 1, oD), (L + 1 + 1, oB3)].map (·.1), a ∈ L :: ([(L + 1 + 1 + 1, oD), (L + 1 + 1, oB3)] ++ [(L + 1 + 1 + 1 + 1 + 1, oP), (L + 1 + 1 + 1 + 1, oJ), (L + 1, oS), (lp, listO pv cap), (418, tabObj #[]), (554, tabObj ps)]).map (·.1) := fun a ha => by
    rcases List.mem_cons.mp ha with rfl | ha
    · exact .head _
    · rw [List.map_append]
      exact .tail _ (List.mem_append_left _ ha)
  have Fi5 := Fi1.modF M5 (fun a ha z => offP1 a ha (subW a z))
  have Fi8 := (Fi5.modF M6 (fun _ _ z => nomatch z)).modF M8 (fun a ha z => offP1 a ha (subW a z))
  have Fi9 := Fi2.modF M8 (fun a ha z => offP2 a ha (subW a z))
  refine k bN eN qN e1 de1 L1 b1 e2 de2 L2 b2 oB3 _ _ _ _ _ hb1 he1 hq1 dB3 F8 (news_sub N8 (by walk_at "bf sub")) ⟨(O5.mod M6 (fun _ z => nomatch z)).mod M8 hcW, Fi8, Fi9, ⟨fb1.2.2.2.1, fb1.2.2.2.2⟩, ⟨fb2.2.2.2.1, fb2.2.2.2.2⟩, fun a ha z => ?_, offP1, offP2⟩
  obtain ⟨o, q9⟩ := Fi5.there a ha
  have q8 := q9.1
  rw [new2 a z] at q8
  cases q8
end
section
local macro_rules | `(tactic| walk_at "bf none") => `(tactic| skip)
local macro_rules | `(tactic| walk_at "bf none") => `(tactic| skip)
local macro_rules | `(tactic| walk_at "bf none") => `(tactic| skip)
local macro_rules | `(tactic| walk_at "bf none") => `(tactic| skip)
local macro_rules | `(tactic| walk_at "bf none") => `(tactic| skip)
local macro_rules | `(tactic| walk_at "bf none") => `(tactic| skip)
local macro_rules | `(tactic| walk_at "bf sub") => `(tactic| (repeat (first | exact List.Sublist.refl _ | exact List.nil_sublist _ | refine List.Sublist.cons₂ _ ?_ | refine List.Sublist.cons _ ?_)))
local macro_rules | `(tactic| walk_at "bf h1") => `(tactic| repeat' (first | ((fail_if_success (with_reducible show wpAny _ _ (call (Value.ref _) _ _) _ _ _)); (fail_if_success (with_reducible show wpAny _ _ (call (Value.ref _) _) _ _ _)); (fail_if_success (with_reducible show wpAny _ _ (getAttr (Value.ref _) _ _) _ _ _)); (fail_if_success (with_reducible show wpAny _ _ (subscriptTail _ _ (Value.ref _) (Value.int _ _)) _ _ _)); (fail_if_success (with_reducible show wpAny _ _ (execs (PySem.Stmt.Assign [PySem.Expr.Name (Str.ofString "rows") _] _ _ :: _) _) _ _ _)); (first | (k_unfold; (try dsimp only)) | (walk1 <;> (try dsimp only)))) | fail "no step"))
theorem Two.mod {w : World} {c h h' : Heap} {D : BD} {q : Int} {e1 de1 L1 e2 de2 L2 : Addr} {b1 b2 : BH} {P W : List Addr} (Z : Two w c D q e1 de1 L1 b1 e2 de2 L2 b2 P h) (M : Mod W h h') (hW : ∀ a ∈ W, c.get? a = none) (hP : ∀ a ∈ W, a ∈ P) : Two w c D q e1 de1 L1 b1 e2 de2 L2 b2 P h' :=
  ⟨Z.on.mod M hW, Z.f1.modF M (fun a ha z => Z.off1 a ha (hP a z)), Z.f2.modF M (fun a ha z => Z.off2 a ha (hP a z)), Z.z1, Z.z2, Z.dis, Z.off1, Z.off2⟩
theorem head2 {s0 : Shared} {w : World} {A : Around} {g c : Heap} {L f l0 lp : Addr} {pv : List Value} {cap : Nat} {oP oJ oD oB oS : Obj} {ps : Array Value} {s : Shared}
    {p₁ : Program} {loose : List Str} {mean : ExcName → Option Value} {mg mb : Str → Option Value} {Q : Flow → Shared → Prop} {bN eN qN : Nat} {e1 de1 L1 e2 de2 L2 : Addr} {b1 b2 : BH} {tb tm te : Tok} {P : List Addr}
    (hr : Room A 150) (hfr : A.frames = some []) (XK : (hd1.heap_39 w.params).In g) (T : Top p₁ loose mean mg mb g) (gc : ∀ b o, g.get? b = some o → c.get? b = some o) (ff : FnAt f c)
    (hc0 : ∀ a ∈ [L, 418, L, L + 1 + 1, L + 1 + 1 + 1, L + 1 + 1 + 1 + 1], c.get? a = none) (hlp : L + 1 + 1 + 1 + 1 + 1 < lp) (h418 : 418 < L) (h554 : 554 < L) (hP : L ∈ P ∧ L + 1 + 1 + 1 ∈ P)
    (dP : oP.data = .cell (some (.ref lp))) (dJ : oJ.data = .cell none) (dD : oD.data = .cell none) (dB : oB.data = .cell (some (.int (bN : Nat) tb))) (dS : oS.data = .cell (some (.ref f)))
    (hb1 : 5 ≤ bN ∧ bN ≤ 14) (he1 : 1 ≤ eN ∧ eN ≤ 4) (hq1 : 1 ≤ qN ∧ qN ≤ 4)
    (F : Fr g L s.heap (fun y => if y = Str.ofString "ring" then some (.ref e2) else if y = Str.ofString "wide" then some (.ref e1) else if y = Str.ofString "most" then some (.int (qN : Nat) tm) else if y = Str.ofString "est" then some (.int (eN : Nat) te) else if y = Str.ofString "script" then some (.ref l0) else none))
    (N : News g L s.heap [(L + 1 + 1 + 1, oD), (L + 1 + 1, oB), (L + 1 + 1 + 1 + 1 + 1, oP), (L + 1 + 1 + 1 + 1, oJ), (L + 1, oS), (lp, listO pv cap), (418, tabObj #[]), (554, tabObj ps)])
    (Z : Two w c ⟨bN, eN, nhOf bN eN, (bN + 7) / 8, .ref f⟩ (qN : Nat) e1 de1 L1 b1 e2 de2 L2 b2 P s.heap)
    {st6 st8 : List Stmt} (hst6 : st6 = (bodyAt (hd1.heap_39 w.params) 557).drop 6) (hst8 : st8 = (bodyAt (hd1.heap_39 w.params) 557).drop 8)
    (k : ∀ oD' td tn h' tk', oD'.data = .cell (some (.int (nhOf bN eN : Nat) td)) →
      Fr g L h' (fun y => if y = Str.ofString "names" then some (.str (Str.ofString "abcde") tn) else if y = Str.ofString "ring" then some (.ref e2) else if y = Str.ofString "wide" then some (.ref e1) else if y = Str.ofString "most" then some (.int (qN : Nat) tm) else if y = Str.ofString "est" then some (.int (eN : Nat) te) else if y = Str.ofString "script" then some (.ref l0) else none) →
      News g L h' [(L + 1 + 1 + 1, oD'), (L + 1 + 1, oB), (L + 1 + 1 + 1 + 1 + 1, oP), (L + 1 + 1 + 1 + 1, oJ), (L + 1, oS), (lp, listO pv cap), (418, tabObj #[]), (554, tabObj ps)] →
      Two w c ⟨bN, eN, nhOf bN eN, (bN + 7) / 8, .ref f⟩ (qN : Nat) e1 de1 L1 b1 e2 de2 L2 b2 P h' →
      wpAny (model PySem.Challenge.rw_sv0019_01.row.prog w) (A.deeper (lawEnv w L)) (execs st8 (lawEnv w L)) Q (fun _ _ => False) { s with heap := h', toks := tk' }) :
    wpAny (model PySem.Challenge.rw_sv0019_01.row.prog w) (A.deeper (lawEnv w L)) (execs st6 (lawEnv w L)) Q (fun _ _ => False) s := by
  subst hst6
  subst hst8
  revert k
  obtain ⟨hd0, dp0, fr0, gd0, un0⟩ := A
  obtain rfl : hd0 = none := hr.hd
  refine' with_lookup (K := hd1.heap_39 w.params) (f := 557) ?ho ?_
  case ho => k_is
  intro hB hS
  unfold lawEnv
  rw [hB, hS]
  simp only [List.drop_succ_cons, List.drop_zero]
  clear hB hS
  intro k
  have m3 := neN (show L + 1 + 1 + 1 ≠ 418 from Nat.ne_of_gt (Nat.lt_succ_of_lt (Nat.lt_succ_of_lt (Nat.lt_succ_of_lt h418))))
  have m4 := neN (show L + 1 + 1 + 1 ≠ 554 from Nat.ne_of_gt (Nat.lt_succ_of_lt (Nat.lt_succ_of_lt (Nat.lt_succ_of_lt h554))))
  have m6 := neN (show L + 1 + 1 + 1 ≠ lp from Nat.ne_of_lt (Nat.lt_of_succ_lt (Nat.lt_of_succ_lt hlp)))
  obtain ⟨y1, y2, y3⟩ := nh_ok bN (by omega) eN (by omega) (by omega) he1.1
  have hcW : ∀ a ∈ [L, L + 1 + 1 + 1], c.get? a = none := fun a ha => by
    simp only [List.mem_cons, List.not_mem_nil, or_false] at ha
    rcases ha with rfl | rfl
    · exact hc0 _ (.head _)
    · exact hc0 _ (.tail _ (.tail _ (.tail _ (.tail _ (.head _)))))
  have hPW : ∀ a ∈ [L, L + 1 + 1 + 1], a ∈ P := fun a ha => by
    simp only [List.mem_cons, List.not_mem_nil, or_false] at ha
    rcases ha with rfl | rfl
    · exact hP.1
    · exact hP.2
  obtain ⟨own, N2, hoff, rb, rn⟩ := rebase2 (cells := [(L + 1 + 1 + 1, oD)]) (fix := [(L + 1 + 1, oB), (L + 1 + 1 + 1 + 1 + 1, oP), (L + 1 + 1 + 1 + 1, oJ), (L + 1, oS), (lp, listO pv cap), (418, tabObj #[]), (554, tabObj ps)]) F N
  simp only [List.cons_append, List.nil_append] at N2
  clear N
  walk_at "bf h1"
  rename Fr _ _ _ _ => F3
  rename News _ _ _ _ => N3
  have M3 := rb _ _ F3 (news_sub N3 (by walk_at "bf sub"))
  have Z3 := Z.mod M3 hcW hPW
  refine wpAny_call ?_
  refine new_pos (h₀ := c) (f := f) Z3.on (hr.down 136).deeper (by omega) (by omega) (by omega) (by omega) y3 y1 ?_
  intro bx bdx bl h4 tk4 M4 nx4 ndx4 nl4 IB
  (try dsimp only at M4 nx4 IB)
  have F4 := fr_mod0 F3 M4
  have N4 := news_sub (l := [(L + 1 + 1 + 1, oD)] ++ [(L + 1 + 1, oB), (L + 1 + 1 + 1 + 1 + 1, oP), (L + 1 + 1 + 1 + 1, oJ), (L + 1, oS), (lp, listO pv cap), (418, tabObj #[]), (554, tabObj ps)]) (news_mod0 N3 M4) (by walk_at "bf sub")
  have Z4 := Z3.mod M4 (fun _ z => nomatch z) (fun _ z => nomatch z)
  obtain ⟨u1, u2, u3, u4, u5, u6, u7, u8, _, _, _, ib1, ib2, _⟩ := IB
  (try dsimp only)
  refine prop_bl_nh Z4.on (hr.down 143).deeper ib1 ib2 ?_
  intro h5 tk5 M5
  (try dsimp only at M5)
  have F5 := fr_mod0 F4 M5
  have N5 := news_mod0 N4 M5
  have Z5 := Z4.mod M5 (fun _ z => nomatch z) (fun _ z => nomatch z)
  obtain ⟨own5, N6, hoff5, rb5, rn5⟩ := rebase2 F5 N5
  simp only [List.cons_append, List.nil_append] at N6
  clear N3 F3 N4 F4 N5
  (try dsimp only)
  walk_at "bf h1"
  rename Fr _ _ _ _ => F7
  rename News _ _ _ _ => N7
  have M7 := rb5 _ _ F7 (news_sub N7 (by walk_at "bf sub"))
  have Z7 := Z5.mod M7 hcW hPW
  exact k _ _ _ _ _ (by assumption) F7 (news_sub N7 (by walk_at "bf sub")) Z7
end
section
local macro_rules | `(tactic| walk_at "bf none") => `(tactic| skip)
local macro_rules | `(tactic| walk_at "bf none") => `(tactic| skip)
local macro_rules | `(tactic| walk_at "bf none") => `(tactic| skip)
local macro_rules | `(tactic| walk_at "bf none") => `(tactic| skip)
local macro_rules | `(tactic| walk_at "FnAt") => `(tactic| assumption)
local macro_rules | `(tactic| walk_at "callWith ref") => `(tactic| (k_here; (with_reducible show wpAny _ _ (callWith _ (Value.ref _) [] (backTo _ (starEach (_ :: _) _)) []) _ _ _); (rename (FnAt _ _) => fnX); k_dflt (refine' callWith_F ?k1 ?_; (case k1 => exact fnX); k_whole)))
local macro_rules | `(tactic| walk_at "bf sub") => `(tactic| (repeat (first | exact List.Sublist.refl _ | exact List.nil_sublist _ | refine List.Sublist.cons₂ _ ?_ | refine List.Sublist.cons _ ?_)))
local macro_rules | `(tactic| walk_at "bf src") => `(tactic| repeat' (first | ((with_reducible show wpAny _ _ _ _ _ _); (fail_if_success (with_reducible show wpAny _ _ (call (Value.ref _) _) _ _ _)); (walk1 <;> (try dsimp only))) | fail "no step"))
local macro_rules | `(tactic| walk_at "bf h3") => `(tactic| repeat' (first | ((fail_if_success (with_reducible show wpAny _ _ (call (Value.ref _) _) _ _ _)); (fail_if_success (with_reducible show wpAny _ _ (eval (PySem.Expr.ListComp _ _ _ _) _) _ _ _)); (fail_if_success (with_reducible show wpAny _ _ (exec (PySem.Stmt.Assign _ _ _) _) _ _ _)); (fail_if_success (with_reducible show wpAny _ _ (execs (PySem.Stmt.Assign [PySem.Expr.Tuple _ _ _] _ _ :: _) _) _ _ _)); (first | (k_unfold; (try dsimp only)) | (walk1 <;> (try dsimp only)))) | fail "no step"))
theorem head3 {s0 : Shared} {w : World} {A : Around} {g c : Heap} {L f l0 lp : Addr} {PN : List Int} {pv : List Value} {cap : Nat} {oP oJ oD oB oS : Obj} {ps : Array Value} {s : Shared}
    {p₁ : Program} {loose : List Str} {mean : ExcName → Option Value} {mg mb : Str → Option Value} {Q : Flow → Shared → Prop} {bN eN qN nh : Nat} {e1 de1 L1 e2 de2 L2 : Addr} {b1 b2 : BH} {tb tm te tn td : Tok} {P : List Addr} {D : BD}
    (hr : Room A 150) (hfr : A.frames = some []) (XK : (hd1.heap_39 w.params).In g) (T : Top p₁ loose mean mg mb g) (gc : ∀ b o, g.get? b = some o → c.get? b = some o) (ff : FnAt f c)
    (HFs : ∀ (i d : Nat) (tk : Tok), i < 5 → d < 1000 → HF w c f d (.str ⟨#[97 + i]⟩ tk) (spreadOf PN i d))
    (hL : c.get? L = none) (hP : L ∈ P)
    (dP : oP.data = .cell (some (.ref lp))) (dJ : oJ.data = .cell none) (dD : oD.data = .cell (some (.int (nh : Nat) td))) (dB : oB.data = .cell (some (.int (bN : Nat) tb))) (dS : oS.data = .cell (some (.ref f)))
    (hb1 : 5 ≤ bN ∧ bN ≤ 14) (hnh : nh < 900)
    (F : Fr g L s.heap (fun y => if y = Str.ofString "names" then some (.str (Str.ofString "abcde") tn) else if y = Str.ofString "ring" then some (.ref e2) else if y = Str.ofString "wide" then some (.ref e1) else if y = Str.ofString "most" then some (.int (qN : Nat) tm) else if y = Str.ofString "est" then some (.int (eN : Nat) te) else if y = Str.ofString "script" then some (.ref l0) else none))
    (N : News g L s.heap [(L + 1 + 1 + 1, oD), (L + 1 + 1, oB), (L + 1 + 1 + 1 + 1 + 1, oP), (L + 1 + 1 + 1 + 1, oJ), (L + 1, oS), (lp, listO pv cap), (418, tabObj #[]), (554, tabObj ps)])
    (Z : Two w c D (qN : Nat) e1 de1 L1 b1 e2 de2 L2 b2 P s.heap)
    {st8 st9 : List Stmt} (hst8 : st8 = (bodyAt (hd1.heap_39 w.params) 557).drop 8) (hst9 : st9 = (bodyAt (hd1.heap_39 w.params) 557).drop 9)
    (k : ∀ lr rvs rk h' tk', Mod [L] s.heap h' → s.heap.get? lr = none → h'.get? lr = some (listO rvs rk) → Nest (fun a o => h'.get? a = some o ∧ s.heap.get? a = none) rvs ((List.range 5).map fun i => (spreadOf PN i nh).map fun y => y.fmod (bN : Int)) →
      Fr g L h' (fun y => if y = Str.ofString "rows" then some (.ref lr) else if y = Str.ofString "names" then some (.str (Str.ofString "abcde") tn) else if y = Str.ofString "ring" then some (.ref e2) else if y = Str.ofString "wide" then some (.ref e1) else if y = Str.ofString "most" then some (.int (qN : Nat) tm) else if y = Str.ofString "est" then some (.int (eN : Nat) te) else if y = Str.ofString "script" then some (.ref l0) else none) →
      wpAny (model PySem.Challenge.rw_sv0019_01.row.prog w) (A.deeper (lawEnv w L)) (execs st9 (lawEnv w L)) Q (fun _ _ => False) { s with heap := h', toks := tk' }) :
    wpAny (model PySem.Challenge.rw_sv0019_01.row.prog w) (A.deeper (lawEnv w L)) (execs st8 (lawEnv w L)) Q (fun _ _ => False) s := by
  subst hst8
  subst hst9
  revert k
  obtain ⟨hd0, dp0, fr0, gd0, un0⟩ := A
  obtain rfl : hd0 = none := hr.hd
  refine' with_lookup (K := hd1.heap_39 w.params) (f := 557) ?ho ?_
  case ho => k_is
  intro hB hS
  unfold lawEnv
  rw [hB, hS]
  simp only [List.drop_succ_cons, List.drop_zero]
  clear hB hS
  intro k
  walk_at "bf h3"
  have xs5 : (Str.ofString "abcde").cps.size = 5 := by decide +kernel
  with_reducible refine' one_compA (xs := Str.ofString "abcde") (tx := tn) (fun v ns K => ∃ a vs k, v = Value.ref a ∧ K a (listO vs k) ∧ IntsAre vs ns) (fun i => (spreadOf PN i nh).map fun y => y.fmod (bN : Int)) (hs1 := ?hs1) F ?hP ?hA ?hLe ?hsw ?hclos ?hcell ?hkind ?hnames ?hx ?hy ?hpk ?hn ?hasc ?hmain
  case hP => rintro v d K K' hK ⟨a, vs, k, e, h1, h2⟩; exact ⟨a, vs, k, e, hK _ _ h1, h2⟩
  case hs1 => intro _; rfl
  case hA => rfl
  case hLe => rfl
  case hsw => with_unfolding_all rfl
  case hclos => with_unfolding_all rfl
  case hcell => decide
  case hkind => rfl
  case hnames => decide
  case hx => rfl
  case hy => rfl
  case hpk => rfl
  case hn => decide +kernel
  case hasc => decide +kernel
  case hmain =>
    walk_at "bf src"
    refine ⟨rfl, F, ⟨?el, fun _ _ _ _ _ _ _ _ _ => trivial⟩, ?fin⟩
    case fin =>
      intro Dr h9 tk9 ys9 M9 F9 n9 hD9 hp9
      (try dsimp only)
      rw [xs5] at hp9
      have NN := Nest.mono (K' := fun a o => h9.get? a = some o ∧ s.heap.get? a = none) (Nest.of_paired (K := fun a o => h9.get? a = some o ∧ s.heap.get? a = none ∧ a ≠ Dr) hp9) fun a o z => ⟨z.1, z.2.1⟩
      have hD9' : h9.get? Dr = some (listO ys9 ys9.length) := hD9
      with_reducible exact k Dr ys9 ys9.length h9 _ M9 n9 hD9' NN F9
    case el =>
      intro i cc u h1 tk1 Cc m' hcps M1 F1 nC hnC hxC
      obtain ⟨hi5, rfl⟩ := letters5 hcps
      (try dsimp only)
      obtain ⟨oC, eC, hoC⟩ := LCg.ns_obj hnC
      have N1 := news_add (news_mod N M1 (fun p hp z => (N p hp).2.1 (List.mem_singleton.mp z))) eC (fr_new F nC)
      have fn1 : FnAt f h1 := Bf.FnAt.on (f := f) ff (Z.on.mod M1 (fun a ha => by rw [List.mem_singleton.mp ha]; exact hL))
      obtain ⟨own, N2, hoff, rb, rn⟩ := rebase2 (cells := []) F1 N1
      simp only [List.nil_append, List.cons_append] at N2
      clear N1 N F
      walk_at "bf h3"
      walk_at "bf comp"
      walk_at "bf h3"
      refine wpAny_call ?_
      refine HFs i nh _ hi5 (by omega) _ _ _ _ (Z.on.mod M1 (fun a ha => by rw [List.mem_singleton.mp ha]; exact hL)) (hr.down 139).deeper ?_
      intro al h2 tk2 M2 nal Ial
      (try dsimp only at M2 nal)
      obtain ⟨als, alk, za, zi⟩ := Ial
      have F2 := fr_mod0 F1 M2
      have N3 := news_add (news_mod0 N2 M2) za.1 (fr_new F1 nal)
      have zl : als.length = nh := zi.length.trans (by simp [spreadOf])
      have hb0 : 0 < bN := by omega
      clear F1 N2
      refine LCg.CompSrc.ledger rfl F2 N3 (.head _) (by rw [PySem.sizeLine_eq, List.size_toArray, zl]; omega) ?_
      intro g'
      refine kcf_list (fun p => p.fmod (bN : Int)) zi ?celt ?cfin
      case celt =>
        intro q tq I oI' C' oC' D' m₂ ys h5 tk5 E' hq5 hC5 hx5 F7 N7 off5 ne5 _
        clear F2 N3
        (try simp only [LCg.Off3, and_true] at off5)
        walk_at "bf steps"
        exact kcf_el (by have := Int.fmod_nonneg_of_pos q (show (0 : Int) < bN by omega); omega) rfl rfl
      case cfin =>
        unfold KPfDone
        intro ys hys D0 h6 tk6 F6 N6 off6
        (try dsimp only)
        have hD0 := N6 _ (.head _)
        have nD0 : h1.get? D0 = none := rn _ hD0.2.2 (fun z => by
          rcases List.mem_cons.mp z with z | z
          · exact hD0.2.1 z
          · obtain ⟨p, hp, e⟩ := List.mem_map.mp z
            exact off1_mem off6 p (.tail _ (List.mem_append_left own hp)) e) (fun p hp => off1_mem off6 p (List.Sublist.subset (by walk_at "bf sub") hp))
        have M6 := rb _ _ F6 (news_sub N6 (by walk_at "bf sub"))
        exact ⟨h6, tk6, rfl, M6, F6, D0, ys, ys.length, rfl, ⟨hD0.1, nD0⟩, hys⟩
end
section
local macro_rules | `(tactic| walk_at "bf none") => `(tactic| skip)
local macro_rules | `(tactic| walk_at "bf none") => `(tactic| skip)
local macro_rules | `(tactic| walk_at "bf none") => `(tactic| skip)
local macro_rules | `(tactic| walk_at "bf none") => `(tactic| skip)
local macro_rules | `(tactic| walk_at "bf none") => `(tactic| skip)
local macro_rules | `(tactic| walk_at "bf none") => `(tactic| skip)
local macro_rules | `(tactic| walk_at "bf none") => `(tactic| skip)
local macro_rules | `(tactic| walk_at "bf none") => `(tactic| skip)
local macro_rules | `(tactic| walk_at "bf sub") => `(tactic| (repeat (first | exact List.Sublist.refl _ | exact List.nil_sublist _ | refine List.Sublist.cons₂ _ ?_ | refine List.Sublist.cons _ ?_)))
local macro_rules | `(tactic| walk_at "bf h4") => `(tactic| repeat' (first | ((fail_if_success (with_reducible show wpAny _ _ (execs (PySem.Stmt.For _ _ _ _ _ :: _) _) _ _ _)); (first | (k_unfold; (try dsimp only)) | (walk1 <;> (try dsimp only)))) | fail "no step"))
theorem heaps0 (n : Nat) : heapsOf n ([] ++ [[]]) = [[]] := by
  simp [heapsOf, chunk, cntOf]
theorem nodup6_of (a b c d e f : Nat) (h1 : b < a) (h2 : a < d) (h3 : d < c) (h4 : c < e) (h5 : f < b) : [a, b, c, d, e, f].Nodup := by
  simp only [List.nodup_cons, List.mem_cons, List.not_mem_nil, or_false, not_or, List.nodup_nil, and_true, not_false_eq_true]
  omega
theorem base10 {y : Str} {v1 v2 v3 v4 v5 v6 v7 v8 v9 v10 : Value} {n1 n2 n3 n4 n5 n6 n7 n8 n9 n10 : Str} : (if y = n1 then some v1 else if y = n2 then some v2 else if y = n3 then some v3 else if y = n4 then some v4 else if y = n5 then some v5 else if y = n6 then some v6 else if y = n7 then some v7 else if y = n8 then some v8 else if y = n9 then some v9 else if y = n10 then some v10 else none) =
    List.lookup y [(n1, v1), (n2, v2), (n3, v3), (n4, v4), (n5, v5), (n6, v6), (n7, v7), (n8, v8), (n9, v9), (n10, v10)] := by
  have key : ∀ (n : Str) (v : Value) (r : List (Str × Value)), List.lookup y ((n, v) :: r) = if y = n then some v else List.lookup y r := fun n v r => by
    rw [List.lookup_cons]
    by_cases c : y = n
    · subst c; simp
    · rw [if_neg c, beq_false_of_ne c]
  rw [key, key, key, key, key, key, key, key, key, key]
  rfl
theorem head4 {s0 : Shared} {w : World} {A : Around} {g c hb : Heap} {L f l0 lp lr : Addr} {PN : List Int} {pv rvs : List Value} {rk cap : Nat} {oP oJ oD oB oS : Obj} {ps : Array Value} {s : Shared} {mb' : Str → Option Value}
    {p₁ : Program} {loose : List Str} {mean : ExcName → Option Value} {mg mb : Str → Option Value} {Q : Flow → Shared → Prop} {qN : Nat} {e1 de1 L1 e2 de2 L2 : Addr} {b1 b2 : BH} {tm te tn td : Tok} {D : BD}
    (hr : Room A 150) (hfr : A.frames = some []) (XK : (hd1.heap_39 w.params).In g) (T : Top p₁ loose mean mg mb g) (gc : ∀ b o, g.get? b = some o → c.get? b = some o) (ff : FnAt f c)
    (HFs : ∀ (i d : Nat) (tk : Tok), i < 5 → d < 1000 → HF w c f d (.str ⟨#[97 + i]⟩ tk) (spreadOf PN i d))
    (hc0 : ∀ a ∈ [L, 418, L, L + 1 + 1, L + 1 + 1 + 1, L + 1 + 1 + 1 + 1], c.get? a = none) (hlp : L + 1 + 1 + 1 + 1 + 1 < lp) (h418 : 418 < L) (h554 : 554 < L)
    (dP : oP.data = .cell (some (.ref lp))) (dJ : oJ.data = .cell none) (dD : oD.data = .cell (some (.int (D.nh : Nat) td))) (dS : oS.data = .cell (some (.ref f)))
    (ok : D.Ok) (hf : D.hf = .ref f) (sm : D.nh < 900 ∧ D.bits < 1000 ∧ D.est < 1000) (hq1 : 1 ≤ qN ∧ qN ≤ 4) (hpv : IntsAre pv PN) (hlen : PN.length ≤ 63) (kp : Kept s0 s)
    (Fb : Fr g L hb mb') (Nb : News g L hb [(L + 1 + 1 + 1, oD), (L + 1 + 1, oB), (L + 1 + 1 + 1 + 1 + 1, oP), (L + 1 + 1 + 1 + 1, oJ), (L + 1, oS), (lp, listO pv cap), (418, tabObj #[]), (554, tabObj ps)])
    (Z : Two w c D (qN : Nat) e1 de1 L1 b1 e2 de2 L2 b2 [L, L + 1 + 1 + 1, L + 1 + 1, L + 1 + 1 + 1 + 1 + 1, L + 1 + 1 + 1 + 1, L + 1, lp, 418, 554] hb)
    (Mb : Mod [L] hb s.heap) (hlr0 : hb.get? lr = none) (hlr : s.heap.get? lr = some (listO rvs rk)) (NR : Nest (fun a o => s.heap.get? a = some o ∧ hb.get? a = none) rvs ((List.range 5).map fun i => (spreadOf PN i D.nh).map fun y => y.fmod (D.bits : Int)))
    (F : Fr g L s.heap (fun y => if y = Str.ofString "rows" then some (.ref lr) else if y = Str.ofString "names" then some (.str (Str.ofString "abcde") tn) else if y = Str.ofString "ring" then some (.ref e2) else if y = Str.ofString "wide" then some (.ref e1) else if y = Str.ofString "most" then some (.int (qN : Nat) tm) else if y = Str.ofString "est" then some (.int (D.est : Nat) te) else if y = Str.ofString "script" then some (.ref l0) else none))
    {st9 st10 : List Stmt} (hst9 : st9 = (bodyAt (hd1.heap_39 w.params) 557).drop 9) (hst10 : st10 = (bodyAt (hd1.heap_39 w.params) 557).drop 10)
    (k : ∀ (x : Fx) stb v ta tp spl tul svs tvs lvs uvs trv k1 k2 k3 k4 k5 oj s', x.PN = PN → LawAt (Cst.mk w g c L D (qN : Nat) e1 de1 L1 e2 de2 L2) x A → x.rows = rowsAt x.PN D.nh D.bits → Inv (Cst.mk w g c L D (qN : Nat) e1 de1 L1 e2 de2 L2) x 0 [b1] [b2] 0 0 0 1 [] [] [] [] [0, 0, 0, 0, 0] →
      ((L + 1 + 1 + 1 + 1 + 1 : Nat), oP) ∈ stb → (lp, listO pv cap) ∈ stb →
      StA s0 (Cst.mk w g c L D (qN : Nat) e1 de1 L1 e2 de2 L2) x [L, x.sp, spl, x.tu, tul, x.tr, x.cj] stb 0 0 [b1] [b2] v (1 : Nat) ta 0 tp [] [] [] [] [0, 0, 0, 0, 0] none spl tul svs tvs lvs uvs trv k1 k2 k3 k4 k5 oj s' →
      wpAny (model PySem.Challenge.rw_sv0019_01.row.prog w) (A.deeper (lawEnv w L)) (execs st10 (lawEnv w L)) Q (fun _ _ => False) s') :
    wpAny (model PySem.Challenge.rw_sv0019_01.row.prog w) (A.deeper (lawEnv w L)) (execs st9 (lawEnv w L)) Q (fun _ _ => False) s := by
  have hrA := hr
  have hfrA := hfr
  subst hst9
  subst hst10
  revert k
  obtain ⟨hd0, dp0, fr0, gd0, un0⟩ := A
  obtain rfl : hd0 = none := hr.hd
  refine' with_lookup (K := hd1.heap_39 w.params) (f := 557) ?ho ?_
  case ho => k_is
  intro hB hS
  unfold lawEnv
  rw [hB, hS]
  simp only [List.drop_succ_cons, List.drop_zero]
  clear hB hS
  intro k
  have N : News g L s.heap ([] ++ [(L + 1 + 1 + 1, oD), (L + 1 + 1 + 1 + 1 + 1, oP), (L + 1 + 1 + 1 + 1, oJ), (L + 1, oS), (lp, listO pv cap), (418, tabObj #[])]) := news_mod (news_sub Nb (by walk_at "bf sub")) Mb (fun p hp z => (news_sub Nb (l := [(L + 1 + 1 + 1, oD), (L + 1 + 1 + 1 + 1 + 1, oP), (L + 1 + 1 + 1 + 1, oJ), (L + 1, oS), (lp, listO pv cap), (418, tabObj #[])]) (by walk_at "bf sub") p hp).2.1 (List.mem_singleton.mp z))
  have N0 := news_add N hlr (fr_new Fb hlr0)
  obtain ⟨own, N2, hoff, rb, rn⟩ := rebase2 (cells := []) (fix := [(lr, listO rvs rk), (L + 1 + 1 + 1, oD), (L + 1 + 1 + 1 + 1 + 1, oP), (L + 1 + 1 + 1 + 1, oJ), (L + 1, oS), (lp, listO pv cap), (418, tabObj #[])]) F N0
  simp only [List.cons_append, List.nil_append] at N2
  clear N N0
  have liveL : ∃ o, hb.get? L = some o := by
    obtain ⟨o, _, _, e, _⟩ := Fb.ns
    exact ⟨o, e⟩
  have liveB := fun p (hp : p ∈ [(L + 1 + 1 + 1, oD), (L + 1 + 1, oB), (L + 1 + 1 + 1 + 1 + 1, oP), (L + 1 + 1 + 1 + 1, oJ), (L + 1, oS), (lp, listO pv cap), (418, tabObj #[]), (554, tabObj ps)]) => (Nb p hp).1
  have liveS := fun p (hp : p ∈ [(L + 1 + 1 + 1, oD), (L + 1 + 1, oB), (L + 1 + 1 + 1 + 1 + 1, oP), (L + 1 + 1 + 1 + 1, oJ), (L + 1, oS), (lp, listO pv cap), (418, tabObj #[]), (554, tabObj ps)]) => Mb _ _ (fun z => (Nb p hp).2.1 (List.mem_singleton.mp z)) (Nb p hp).1
  have gB := Fb.keep
  walk_at "bf h4"
  rename_i l4 _ q4 l3 _ q3 l2 _ q2 l1 _ q1 l0' _ q0 D1 _ i1 _ _ _ _ _ qD1 D0 _ qD0 _ _ _ _ _ h9 F9 N9
  have M9 := rb _ _ F9 (news_sub N9 (by walk_at "bf sub"))
  have m4 := N9 (l4, listO [] 0) (by k_mem)
  have m3 := N9 (l3, listO [.ref l4] 0) (by k_mem)
  have m2 := N9 (l2, listO [] 0) (by k_mem)
  have m1 := N9 (l1, listO [.ref l2] 0) (by k_mem)
  have mD := N9 (D1, listO ((List.replicate (Int.toNat 5) [_]).flatten) 0) (by k_mem)
  have mr := N9 (lr, listO rvs rk) (by k_mem)
  have md := N9 (L + 1 + 1 + 1, oD) (by k_mem)
  have mP := N9 (L + 1 + 1 + 1 + 1 + 1, oP) (by k_mem)
  have mJ := N9 (L + 1 + 1 + 1 + 1, oJ) (by k_mem)
  have mS := N9 (L + 1, oS) (by k_mem)
  have ml := N9 (lp, listO pv cap) (by k_mem)
  have m418 := N9 (418, tabObj #[]) (by k_mem)
  dsimp only at m4 m3 m2 m1 mD mr md mP mJ mS ml m418
  have lt0 : ∀ d, g.get? d = none → d ≠ L → (lr < d ∧ L + 1 + 1 + 1 < d ∧ L + 1 + 1 + 1 + 1 + 1 < d ∧ L + 1 + 1 + 1 + 1 < d ∧ L + 1 < d ∧ lp < d ∧ 418 < d ∧ AllLt d own) → s.heap.get? d = none := fun d gd dL q => rn _ gd (fun z => by
    simp only [List.map_cons, List.map_nil, List.mem_cons, List.not_mem_nil, or_false, List.cons_append, List.nil_append] at z
    obtain ⟨y1, y2, y3, y4, y5, y6, y7, _⟩ := q
    rcases z with z | z | z | z | z | z | z | z
    · exact dL z
    · exact absurd z.symm (Nat.ne_of_lt y1)
    · exact absurd z.symm (Nat.ne_of_lt y2)
    · exact absurd z.symm (Nat.ne_of_lt y3)
    · exact absurd z.symm (Nat.ne_of_lt y4)
    · exact absurd z.symm (Nat.ne_of_lt y5)
    · exact absurd z.symm (Nat.ne_of_lt y6)
    · exact absurd z.symm (Nat.ne_of_lt y7)) (tbn_neAll q.2.2.2.2.2.2.2)
  have n4 := lt0 l4 m4.2.2 m4.2.1 q4
  have n3 := lt0 l3 m3.2.2 m3.2.1 q3.2
  have n2 := lt0 l2 m2.2.2 m2.2.1 q2.2.2
  have n1 := lt0 l1 m1.2.2 m1.2.1 q1.2.2.2
  have nD := lt0 D1 mD.2.2 mD.2.1 qD1.2.2.2.2.2
  have freshX : ∀ a ∈ [l3, l4, l1, l2, D1], s.heap.get? a = none := fun a ha => by
    simp only [List.mem_cons, List.not_mem_nil, or_false] at ha
    rcases ha with rfl | rfl | rfl | rfl | rfl
    · exact n3
    · exact n4
    · exact n1
    · exact n2
    · exact nD
  have cL : c.get? L = none := hc0 _ (.head _)
  have cJ : c.get? (L + 1 + 1 + 1 + 1) = none := hc0 _ (.tail _ (.tail _ (.tail _ (.tail _ (.tail _ (.head _))))))
  have c418 : c.get? 418 = none := hc0 _ (.tail _ (.head _))
  have Os := Z.on.mod Mb (fun a ha => by rw [List.mem_singleton.mp ha]; exact cL)
  have O9 := Os.mod M9 (fun a ha => by rw [List.mem_singleton.mp ha]; exact cL)
  have bJ := liveB (L + 1 + 1 + 1 + 1, oJ) (by k_mem)
  have b418 := liveB (418, tabObj #[]) (by k_mem)
  have footB : ∀ a ∈ foot (Cst.mk w g c L D (qN : Nat) e1 de1 L1 e2 de2 L2) [b1] [b2], (∃ o, hb.get? a = some o) ∧ a ∉ [L, L + 1 + 1 + 1, L + 1 + 1 + 1 + 1 + 1, L + 1 + 1 + 1 + 1, L + 1, lp] := fun a ha => by
    rcases List.mem_cons.mp ha with rfl | ha
    · refine ⟨⟨_, b418⟩, fun z => ?_⟩
      simp only [List.mem_cons, List.not_mem_nil, or_false] at z
      have z' : @Eq Nat 418 L ∨ @Eq Nat 418 (L + 1 + 1 + 1) ∨ @Eq Nat 418 (L + 1 + 1 + 1 + 1 + 1) ∨ @Eq Nat 418 (L + 1 + 1 + 1 + 1) ∨ @Eq Nat 418 (L + 1) ∨ @Eq Nat 418 lp := z
      have h1 : @LT.lt Nat _ 418 L := h418
      have h2 : @LT.lt Nat _ (L + 1 + 1 + 1 + 1 + 1) lp := hlp
      omega
    rcases List.mem_append.mp ha with ha | ha
    · obtain ⟨o, q⟩ := Z.f1.there a ha
      exact ⟨⟨o, q.1⟩, fun z => Z.off1 a ha ((show List.Sublist [L, L + 1 + 1 + 1, L + 1 + 1 + 1 + 1 + 1, L + 1 + 1 + 1 + 1, L + 1, lp] _ by walk_at "bf sub").subset z)⟩
    · obtain ⟨o, q⟩ := Z.f2.there a ha
      exact ⟨⟨o, q.1⟩, fun z => Z.off2 a ha ((show List.Sublist [L, L + 1 + 1 + 1, L + 1 + 1 + 1 + 1 + 1, L + 1 + 1 + 1 + 1, L + 1, lp] _ by walk_at "bf sub").subset z)⟩
  have footS : ∀ a ∈ foot (Cst.mk w g c L D (qN : Nat) e1 de1 L1 e2 de2 L2) [b1] [b2], ∃ o, s.heap.get? a = some o := fun a ha => by
    obtain ⟨⟨o, e⟩, n⟩ := footB a ha
    exact ⟨o, Mb a o (fun z => n (by rw [List.mem_singleton.mp z]; exact .head _)) e⟩
  have offN : ∀ a o, hb.get? a = none → s.heap.get? a = some o → a ∉ [L, l3, l4, l1, l2, D1, L + 1 + 1 + 1 + 1] ∧ a ∉ foot (Cst.mk w g c L D (qN : Nat) e1 de1 L1 e2 de2 L2) [b1] [b2] := fun a o n e => by
    refine ⟨fun z => ?_, fun z => ?_⟩
    · rcases List.mem_cons.mp z with rfl | z
      · obtain ⟨o', e'⟩ := liveL
        rw [n] at e'; cases e'
      · rcases List.mem_append.mp (show a ∈ [l3, l4, l1, l2, D1] ++ [L + 1 + 1 + 1 + 1] from z) with z | z
        · rw [freshX a z] at e; cases e
        · rw [List.mem_singleton.mp z] at n
          rw [bJ] at n; cases n
    · obtain ⟨⟨o', e'⟩, _⟩ := footB a z
      rw [n] at e'; cases e'
  have offO : ∀ a o, a ∈ [L + 1 + 1 + 1, L + 1 + 1 + 1 + 1 + 1, L + 1, lp] → s.heap.get? a = some o → a ∉ [L, l3, l4, l1, l2, D1, L + 1 + 1 + 1 + 1] ∧ a ∉ foot (Cst.mk w g c L D (qN : Nat) e1 de1 L1 e2 de2 L2) [b1] [b2] := fun a o ha e => by
    have h2 : @LT.lt Nat _ (L + 1 + 1 + 1 + 1 + 1) lp := hlp
    have ha' : @Eq Nat a (L + 1 + 1 + 1) ∨ @Eq Nat a (L + 1 + 1 + 1 + 1 + 1) ∨ @Eq Nat a (L + 1) ∨ @Eq Nat a lp := by
      simpa only [List.mem_cons, List.not_mem_nil, or_false] using ha
    refine ⟨fun z => ?_, fun z => ?_⟩
    · rcases List.mem_cons.mp z with z | z
      · have z' : @Eq Nat a L := z
        omega
      · rcases List.mem_append.mp (show a ∈ [l3, l4, l1, l2, D1] ++ [L + 1 + 1 + 1 + 1] from z) with z | z
        · rw [freshX a z] at e; cases e
        · have z' : @Eq Nat a (L + 1 + 1 + 1 + 1) := List.mem_singleton.mp z
          omega
    · exact (footB a z).2 ((show List.Sublist [L + 1 + 1 + 1, L + 1 + 1 + 1 + 1 + 1, L + 1, lp] [L, L + 1 + 1 + 1, L + 1 + 1 + 1 + 1 + 1, L + 1 + 1 + 1 + 1, L + 1, lp] by walk_at "bf sub").subset ha)
  obtain ⟨rp, NP, hrp⟩ := NR.pairs
  have itr : IntsAre ((List.replicate (Int.toNat 5) [_]).flatten) [0, 0, 0, 0, 0] := i1
  have hX9 : ∀ a ∈ [L, l3, l4, l1, l2, D1, L + 1 + 1 + 1 + 1], c.get? a = none ∧ ∃ o, h9.get? a = some o := fun a ha => by
    rcases List.mem_cons.mp ha with rfl | ha
    · obtain ⟨o, _, _, e, _⟩ := F9.ns
      exact ⟨cL, o, e⟩
    rcases List.mem_append.mp (show a ∈ [l3, l4, l1, l2, D1] ++ [L + 1 + 1 + 1 + 1] from ha) with z | z
    · refine ⟨g_new Os.stays (freshX a z), ?_⟩
      simp only [List.mem_cons, List.not_mem_nil, or_false] at z
      rcases z with rfl | rfl | rfl | rfl | rfl
      · exact ⟨_, m3.1⟩
      · exact ⟨_, m4.1⟩
      · exact ⟨_, m1.1⟩
      · exact ⟨_, m2.1⟩
      · exact ⟨_, mD.1⟩
    · rw [List.mem_singleton.mp z]
      exact ⟨cJ, _, mJ.1⟩
  have ap9 : ∀ a ∈ foot (Cst.mk w g c L D (qN : Nat) e1 de1 L1 e2 de2 L2) [b1] [b2], a ∉ [L, l3, l4, l1, l2, D1, L + 1 + 1 + 1 + 1] := fun a ha z => by
    rcases List.mem_cons.mp z with rfl | z
    · exact (footB _ ha).2 (.head _)
    rcases List.mem_append.mp (show a ∈ [l3, l4, l1, l2, D1] ++ [L + 1 + 1 + 1 + 1] from z) with z | z
    · obtain ⟨o, e⟩ := footS a ha
      rw [freshX a z] at e; cases e
    · exact (footB _ ha).2 (by rw [List.mem_singleton.mp z]; exact .tail _ (.tail _ (.tail _ (.head _))))
  have hX1 : ∀ a ∈ ftOf e1 de1 L1 [b1], a ∉ [L] := fun a ha z => ap9 a (.tail _ (List.mem_append_left _ ha)) (by rw [List.mem_singleton.mp z]; exact .head _)
  have hX2 : ∀ a ∈ ftOf e2 de2 L2 [b2], a ∉ [L] := fun a ha z => ap9 a (.tail _ (List.mem_append_right _ ha)) (by rw [List.mem_singleton.mp z]; exact .head _)
  have Fi1 := (Z.f1.modF Mb hX1).modF M9 hX1
  have Fi2 := (Z.f2.modF Mb hX2).modF M9 hX2
  have sb9 : ∀ p ∈ [(L + 1 + 1 + 1, oD), (L + 1, oS), (lr, listO rvs rk), (L + 1 + 1 + 1 + 1 + 1, oP), (lp, listO pv cap)] ++ rp, h9.get? p.1 = some p.2 ∧ g.get? p.1 = none ∧ p.1 ∉ [L, l3, l4, l1, l2, D1, L + 1 + 1 + 1 + 1] ∧ p.1 ∉ foot (Cst.mk w g c L D (qN : Nat) e1 de1 L1 e2 de2 L2) [b1] [b2] := fun p hp => by
    rcases List.mem_append.mp hp with hp | hp
    · rcases List.mem_cons.mp hp with rfl | hp
      · exact ⟨md.1, md.2.2, offO _ _ (.head _) (liveS (L + 1 + 1 + 1, oD) (by k_mem))⟩
      rcases List.mem_cons.mp hp with rfl | hp
      · exact ⟨mS.1, mS.2.2, offO _ _ (.tail _ (.tail _ (.head _))) (liveS (L + 1, oS) (by k_mem))⟩
      rcases List.mem_cons.mp hp with rfl | hp
      · exact ⟨mr.1, mr.2.2, offN _ _ hlr0 hlr⟩
      rcases List.mem_cons.mp hp with rfl | hp
      · exact ⟨mP.1, mP.2.2, offO _ _ (.tail _ (.head _)) (liveS (L + 1 + 1 + 1 + 1 + 1, oP) (by k_mem))⟩
      · rw [List.mem_singleton.mp hp]
        exact ⟨ml.1, ml.2.2, offO _ _ (.tail _ (.tail _ (.tail _ (.head _)))) (liveS (lp, listO pv cap) (by k_mem))⟩
    · obtain ⟨y1, y2⟩ := hrp p hp
      refine ⟨M9 _ _ (fun z => (offN _ _ y2 y1).1 (by rw [List.mem_singleton.mp z]; exact .head _)) y1, g_new gB y2, offN _ _ y2 y1⟩
  obtain ⟨x, hx⟩ : ∃ x : Fx, x = ⟨PN, f, l3, l1, D1, L + 1 + 1 + 1 + 1, L + 1 + 1 + 1, L + 1, lr, l0, oD, oS, rvs, rk, (List.range 5).map fun i => (spreadOf PN i D.nh).map fun y => y.fmod (D.bits : Int), tn, tm, te, td⟩ := ⟨_, rfl⟩
  have FL := canonF (base := x.base (Cst.mk w g c L D (qN : Nat) e1 de1 L1 e2 de2 L2)) F9 rfl rfl (fun y y1 y2 y3 y4 y5 y6 y7 y8 y9 y10 y11 y12 => by
    subst hx
    simp only [if_neg y1, if_neg y2]
    exact base10)
  subst hx
  refine k _ _ _ _ _ l4 l2 [] [] [] [] _ 0 0 0 0 0 oJ _ rfl ⟨hrA, hfrA, XK, ⟨_, _, _, _, _, T⟩, ok, hf, ff, HFs, sm, ⟨by show (1 : Int) ≤ (qN : Nat); omega, by show ((qN : Nat) : Int) ≤ 4; omega⟩, rfl, dD, dS, ⟨rfl, rfl, rfl⟩⟩ rfl ?inv (List.mem_append_left rp (.tail _ (.tail _ (.tail _ (.head _))))) (List.mem_append_left rp (.tail _ (.tail _ (.tail _ (.tail _ (.head _)))))) ⟨⟨O9, gc, hX9, Fi1, Fi2, ⟨#[], ⟨m418.1, c418⟩, .inl rfl⟩, ap9, Z.dis, sb9, FL, ?nw, .head _, ?hX, ⟨kp.drawn, kp.os, kp.gens⟩⟩, .nil, .nil, .nil, .nil, itr, dJ, ?nd, ?fix, ?nro⟩
  case inv =>
    have z0 : rowsOf [b1] = [(0, fun _ => false)] := by
      show [(b1.cnt, b1.p)] = _
      rw [Z.z1.1, Z.z1.2]
    have z0' : rowsOf [b2] = [(0, fun _ => false)] := by
      show [(b2.cnt, b2.p)] = _
      rw [Z.z2.1, Z.z2.2]
    refine ⟨?_, ?_, ?_, ?_, rfl, rfl, Nat.le_refl _, ?_, Nat.le_refl _, ?_, rfl, ?_⟩
    · rw [heaps0, z0]; rfl
    · rw [heaps0, z0']; rfl
    · rw [heaps0]; exact ⟨Nat.le_refl _, Nat.le_refl _⟩
    · show ((1 : Nat) : Int) ≤ ((qN : Nat) : Int); omega
    · intro l hl; rw [show l = [] from List.mem_singleton.mp hl]; exact ⟨Nat.le_refl _, fun _ z => nomatch z⟩
    · intro l hl; rw [show l = [] from List.mem_singleton.mp hl]; exact ⟨Nat.le_refl _, fun _ z => nomatch z⟩
    · intro j hj e
      exfalso
      have : j = 0 ∨ j = 1 ∨ j = 2 ∨ j = 3 ∨ j = 4 := by omega
      rcases this with rfl | rfl | rfl | rfl | rfl <;> simp at e
  case nw =>
    intro p hp
    have hp' : p ∈ [(l3, listO [.ref l4] 0), (l4, listO [] 0), (l1, listO [.ref l2] 0), (l2, listO [] 0), (D1, listO ((List.replicate (Int.toNat 5) [_]).flatten) 0), (L + 1 + 1 + 1 + 1, oJ)] := hp
    simp only [List.mem_cons, List.not_mem_nil, or_false] at hp'
    rcases hp' with rfl | rfl | rfl | rfl | rfl | rfl
    · exact m3
    · exact m4
    · exact m1
    · exact m2
    · exact mD
    · exact mJ
  case hX =>
    intro p hp
    have hp' : p ∈ [(l3, listO [.ref l4] 0), (l4, listO [] 0), (l1, listO [.ref l2] 0), (l2, listO [] 0), (D1, listO ((List.replicate (Int.toNat 5) [_]).flatten) 0), (L + 1 + 1 + 1 + 1, oJ)] := hp
    exact .tail _ (List.mem_map_of_mem (f := (·.1)) hp')
  case nd => exact nodup6_of _ _ _ _ _ _ q3.1 q2.1 q1.1 qD1.2.1 q4.2.2.2.1 |> fun z => z
  case fix => exact fun p hp => List.mem_append_left rp ((show List.Sublist (fix3 _) [(L + 1 + 1 + 1, oD), (L + 1, oS), (lr, listO rvs rk), (L + 1 + 1 + 1 + 1 + 1, oP), (lp, listO pv cap)] by unfold fix3; walk_at "bf sub").subset hp)
  case nro => exact NP.mono fun a o z => List.mem_append_right _ z
end
section
theorem law_rest {s0 : Shared} {w : World} {A : Around} {g : Heap} {L f c' l0 lp : Addr} {PN : List Int} {pv : List Value} {cap : Nat} {oP oJ oD oB oS oc : Obj} {ps vs : Array Value} {s : Shared} {name qual : Str} {params : Arguments} {body : List Stmt} {scope : Scope} {doc pm ctv : Value} {t : Tok} {pos : Pos}
    {p₁ : Program} {loose : List Str} {mean : ExcName → Option Value} {mg mb : Str → Option Value} {Q : Flow → Shared → Prop}
    (hr : Room A 150) (hfr : A.frames = some []) (XK : (hd1.heap_39 w.params).In g) (T : Top p₁ loose mean mg mb g)
    (h418 : 418 < L) (h554 : 554 < L) (hlp : L + 1 + 1 + 1 + 1 + 1 < lp) (hlc : lp < c') (hcf : c' < f)
    (hdef : (bodyAt (hd1.heap_39 w.params) 557)[2]? = some (.FunctionDef name params body [] none [] scope none name pos))
    (F : Fr g L s.heap (fun y => if y = Str.ofString "script" then some (.ref l0) else none))
    (N : News g L s.heap [(f, fnMade name qual params body scope [(Str.ofString "pool", L + 1 + 1 + 1 + 1 + 1)] doc pm c' ctv), (c', oc), (lp, listO pv cap), (L + 1 + 1 + 1 + 1 + 1, oP), (L + 1 + 1 + 1 + 1, oJ), (L + 1 + 1 + 1, oD), (L + 1 + 1, oB), (L + 1, oS), (418, tabObj #[]), (554, tabObj ps)])
    (hoc : oc.data = .fields vs) (hov : vs[1]? = some (.str qual t))
    (dP : oP.data = .cell (some (.ref lp))) (dJ : oJ.data = .cell none) (dD : oD.data = .cell none) (dB : oB.data = .cell none) (dS : oS.data = .cell (some (.ref f))) (hpv : IntsAre pv PN) (hne : PN ≠ []) (hlen : PN.length ≤ 63) (kp : Kept s0 s)
    {st3 : List Stmt} (hst3 : st3 = (bodyAt (hd1.heap_39 w.params) 557).drop 3)
    (k : ∀ m' s', Fr g L s'.heap m' → (∃ ps', s'.heap.get? 418 = some (tabObj ps') ∧ (ps' = #[] ∨ ∃ c', ps' = #[rawInt 221, rawInt 19, .ref c'])) → s'.heap.get? 554 = some (tabObj ps) → Kept s0 s' → Q (.ret (.bool true)) s') :
    wpAny (model PySem.Challenge.rw_sv0019_01.row.prog w) (A.deeper (lawEnv w L)) (execs st3 (lawEnv w L)) Q (fun _ _ => False) s := by
  obtain ⟨c, hc⟩ : ∃ c, c = hideAll s.heap [L, 418, L + 1 + 1, L + 1 + 1 + 1, L + 1 + 1 + 1 + 1] := ⟨_, rfl⟩
  have hL1 : @LT.lt Nat _ 418 L := h418
  have hL2 : @LT.lt Nat _ 554 L := h554
  have hL3 : @LT.lt Nat _ (L + 1 + 1 + 1 + 1 + 1) lp := hlp
  have hL4 : @LT.lt Nat _ lp c' := hlc
  have hL5 : @LT.lt Nat _ c' f := hcf
  have gn : ∀ a ∈ [L, 418, L + 1 + 1, L + 1 + 1 + 1, L + 1 + 1 + 1 + 1], g.get? a = none := fun a ha => by
    simp only [List.mem_cons, List.not_mem_nil, or_false] at ha
    rcases ha with rfl | rfl | rfl | rfl | rfl
    · exact Heap.get?_none_of_le F.above
    · exact (N (418, tabObj #[]) (by k_mem)).2.2
    · exact (N (L + 1 + 1, oB) (by k_mem)).2.2
    · exact (N (L + 1 + 1 + 1, oD) (by k_mem)).2.2
    · exact (N (L + 1 + 1 + 1 + 1, oJ) (by k_mem)).2.2
  have inC : ∀ a o, s.heap.get? a = some o → a ∉ [L, 418, L + 1 + 1, L + 1 + 1 + 1, L + 1 + 1 + 1 + 1] → c.get? a = some o := fun a o e n => by rw [hc]; exact hideAll_get _ e n
  have gc : ∀ b o, g.get? b = some o → c.get? b = some o := fun b o e => inC b o (F.keep b o e) (fun z => by rw [gn b z] at e; cases e)
  have hc0 : ∀ a ∈ [L, 418, L, L + 1 + 1, L + 1 + 1 + 1, L + 1 + 1 + 1 + 1], c.get? a = none := fun a ha => by
    rw [hc]
    refine hideAll_none _ ?_
    simp only [List.mem_cons, List.not_mem_nil, or_false] at ha ⊢
    rcases ha with h | h | h | h | h | h
    · exact .inl h
    · exact .inr (.inl h)
    · exact .inl h
    · exact .inr (.inr (.inl h))
    · exact .inr (.inr (.inr (.inl h)))
    · exact .inr (.inr (.inr (.inr h)))
  have Oc : On w c s.heap := ⟨⟨XK.keeps gc, _, _, _, _, _, T.keeps gc⟩, fun b o e => of_hideAll _ (hc ▸ e)⟩
  have Og : On w g c := ⟨⟨XK, _, _, _, _, _, T⟩, gc⟩
  have off : ∀ a : Nat, (a = f ∨ a = c' ∨ a = lp ∨ a = L + 1 + 1 + 1 + 1 + 1 ∨ a = 554) → a ∉ [L, 418, L + 1 + 1, L + 1 + 1 + 1, L + 1 + 1 + 1 + 1] := fun a h z => by
    simp only [List.mem_cons, List.not_mem_nil, or_false] at z
    have z' : @Eq Nat a L ∨ @Eq Nat a 418 ∨ @Eq Nat a (L + 1 + 1) ∨ @Eq Nat a (L + 1 + 1 + 1) ∨ @Eq Nat a (L + 1 + 1 + 1 + 1) := z
    omega
  have nf := N (f, fnMade name qual params body scope [(Str.ofString "pool", L + 1 + 1 + 1 + 1 + 1)] doc pm c' ctv) (.head _)
  have nc := N (c', oc) (.tail _ (.head _))
  have nl := N (lp, listO pv cap) (.tail _ (.tail _ (.head _)))
  have nP := N (L + 1 + 1 + 1 + 1 + 1, oP) (.tail _ (.tail _ (.tail _ (.head _))))
  have n554 := N (554, tabObj ps) (.tail _ (.tail _ (.tail _ (.tail _ (.tail _ (.tail _ (.tail _ (.tail _ (.tail _ (.head _))))))))))
  have cf := inC _ _ nf.1 (off f (.inl rfl))
  have c554 := inC _ _ n554.1 (off 554 (.inr (.inr (.inr (.inr rfl)))))
  have ff : FnAt f c := ⟨_, _, _, _, cf⟩
  have SA : SpreadAt w g c f PN := ⟨c', L + 1 + 1 + 1 + 1 + 1, lp, name, qual, params, body, scope, doc, pm, ctv, oc, oP, vs, t, pv, cap, pos, hdef, cf, nf.2.2, inC _ _ nc.1 (off c' (.inr (.inl rfl))), nc.2.2, hoc, hov, inC _ _ nP.1 (off _ (.inr (.inr (.inr (.inl rfl))))), nP.2.2, dP, inC _ _ nl.1 (off lp (.inr (.inr (.inl rfl)))), nl.2.2, hpv, hne, hlen,
    Nat.ne_of_lt hL5, Nat.ne_of_lt (by omega), Nat.ne_of_lt (by omega), Nat.ne_of_lt (by omega), Nat.ne_of_lt hL4, Nat.ne_of_gt hL3⟩
  have HFs := fun (i d : Nat) (tk : Tok) (hi : i < 5) (hd : d < 1000) => spread_HF Og SA i d hi hd tk
  have N0 : News g L s.heap [(L + 1 + 1 + 1, oD), (L + 1 + 1, oB), (L + 1 + 1 + 1 + 1 + 1, oP), (L + 1 + 1 + 1 + 1, oJ), (L + 1, oS), (lp, listO pv cap), (418, tabObj #[]), (554, tabObj ps)] := fun p hp => N p (by
    simp only [List.mem_cons, List.not_mem_nil, or_false] at hp
    rcases hp with rfl | rfl | rfl | rfl | rfl | rfl | rfl | rfl <;> k_mem)
  have mP : L ∈ [L, L + 1 + 1 + 1, L + 1 + 1, L + 1 + 1 + 1 + 1 + 1, L + 1 + 1 + 1 + 1, L + 1, lp, 418, 554] ∧ L + 1 + 1 + 1 ∈ [L, L + 1 + 1 + 1, L + 1 + 1, L + 1 + 1 + 1 + 1 + 1, L + 1 + 1 + 1 + 1, L + 1, lp, 418, 554] := ⟨.head _, .tail _ (.head _)⟩
  have cL := hc0 L (.head _)
  have mP1 := mP.1
  with_reducible refine head1 (s0 := s0) (c := c) (f := f) hr hfr XK T Oc gc SA ff hc0 hlp h418 h554 F N0 dP dJ dD dB dS hpv hne hlen kp hst3 rfl ?_
  intro bN eN qN e1 de1 L1 b1 e2 de2 L2 b2 oB1 tb tm te h1 tk1 hb1 he1 hq1 dB1 F1 N1 Z1
  obtain ⟨y1, y2, y3⟩ := nh_ok bN (by omega) eN (by omega) (by omega) he1.1
  with_reducible refine head2 (s0 := s0) hr hfr XK T gc ff hc0 hlp h418 h554 mP dP dJ dD dB1 dS hb1 he1 hq1 F1 N1 Z1 rfl rfl ?_
  intro oD1 td tn h2 tk2 dD1 F2 N2 Z2
  with_reducible refine head3 (s0 := s0) hr hfr XK T gc ff HFs cL mP1 dP dJ dD1 dB1 dS hb1 y2 F2 N2 Z2 rfl rfl ?_
  intro lr rvs rk h3 tk3 M3 nlr hlr NR F3
  have ok : (BD.mk bN eN (nhOf bN eN) ((bN + 7) / 8) (.ref f)).Ok := ⟨by show 0 < bN; omega, by show bN ≤ 8 * ((bN + 7) / 8); omega, by show (bN + 7) / 8 < 1000; omega, by show nhOf bN eN < 1000; omega, by show 0 < eN; omega, by show eN < 1000; omega, rfl, by show bN < 1000; omega, y1, ⟨f, rfl⟩, y3⟩
  have sm : (BD.mk bN eN (nhOf bN eN) ((bN + 7) / 8) (.ref f)).nh < 900 ∧ (BD.mk bN eN (nhOf bN eN) ((bN + 7) / 8) (.ref f)).bits < 1000 ∧ (BD.mk bN eN (nhOf bN eN) ((bN + 7) / 8) (.ref f)).est < 1000 := ⟨y2, by show bN < 1000; omega, by show eN < 1000; omega⟩
  have kp3 : Kept s0 ⟨h3, s.gens, s.drawn, tk3, s.os⟩ := ⟨kp.drawn, kp.os, kp.gens⟩
  with_reducible refine head4 (s0 := s0) (hb := h2) (s := ⟨h3, s.gens, s.drawn, tk3, s.os⟩) hr hfr XK T gc ff HFs hc0 hlp h418 h554 dP dJ dD1 dS ok rfl sm hq1 hpv hlen kp3 F2 N2 Z2 M3 nlr hlr NR F3 rfl rfl ?_
  intro x stb v ta tp spl tul svs tvs lvs uvs trv k1 k2 k3 k4 k5 oj s4 hPN LA hrw I hP hlm S
  have hpv' : IntsAre pv x.PN := hPN ▸ hpv
  have hlen' : x.PN.length ≤ 63 := hPN ▸ hlen
  with_reducible refine loop1 (K := Cst.mk w g c L ⟨bN, eN, nhOf bN eN, (bN + 7) / 8, .ref f⟩ (qN : Nat) e1 de1 L1 e2 de2 L2) (x := x) (A := A) LA hrw I hP dP hlm hpv' hlen' S rfl rfl ?_
  rintro m s5 hm ⟨stb5, t15, t25, b15, b25, v5, an5, ta5, pu5, tp5, spI5, spL5, tuI5, tuL5, tried5, xj5, spl5, tul5, svs5, tvs5, lvs5, uvs5, trv5, k15, k25, k35, k45, k55, oj5, _, _, I5, S5⟩
  have P5 := I5.plain (Nat.lt_of_le_of_lt hm (by decide))
  have hm20 : m < 20 := Nat.lt_of_le_of_lt hm (by decide)
  have ian := I5.an1
  with_reducible refine seg11 (K := Cst.mk w g c L ⟨bN, eN, nhOf bN eN, (bN + 7) / 8, .ref f⟩ (qN : Nat) e1 de1 L1 e2 de2 L2) (x := x) (A := A) LA P5 ian S5 rfl rfl ?_
  intro v6 stb6 Ds sds sk u1 u2 s6 up hDs NDs G6
  have nsp6 := S5.nsp.mono fun a o z => up _ z
  have nro6 := S5.nro.mono fun a o z => up _ z
  have fx6 := fun p hp => up p (S5.fix p hp)
  have isp6 := S5.isp
  have itr6 := S5.itr
  have nd6 := S5.nd
  have hj6 := S5.j
  with_reducible refine loop2 (K := Cst.mk w g c L ⟨bN, eN, nhOf bN eN, (bN + 7) / 8, .ref f⟩ (qN : Nat) e1 de1 L1 e2 de2 L2) (x := x) (A := A) LA hrw I5 hm20 hDs NDs nsp6 isp6 itr6 nd6 fx6 nro6 hj6 G6 rfl ?_
  intro X7 m7 cells7 s7 G7
  have tab7 := G7.tab
  have c7 := G7.on.stays _ _ c554
  refine k m7 s7 G7.fr ?_ c7 G7.kp
  obtain ⟨ps', q, z⟩ := tab7
  exact ⟨ps', q.1, z⟩
end
section
local macro_rules | `(tactic| walk_at "bf q0") => `(tactic| repeat' (first | ((fail_if_success (with_reducible show wpAny _ _ (execs (PySem.Stmt.Assign [PySem.Expr.Tuple _ _ _] _ _ :: _) _) _ _ _)); (fail_if_success (with_reducible show wpAny _ _ (call (Value.ref _) _) _ _ _)); (first | (k_unfold; (try dsimp only)) | (walk1 <;> (try dsimp only)))) | fail "no step"))
theorem news_skip3 {g h : Heap} {L : Addr} {a b c d : Addr × Obj} {r : List (Addr × Obj)} (N : News g L h (a :: b :: c :: d :: r)) : News g L h (a :: b :: c :: r) := fun p hp => N p (by
  rcases List.mem_cons.mp hp with h | hp
  · exact h ▸ .head _
  rcases List.mem_cons.mp hp with h | hp
  · exact h ▸ .tail _ (.head _)
  rcases List.mem_cons.mp hp with h | hp
  · exact h ▸ .tail _ (.tail _ (.head _))
  · exact .tail _ (.tail _ (.tail _ (.tail _ hp))))
theorem law_spec {w : World} {A : Around} {R : Result → Shared → Prop} {s : Shared} {h₀ : Heap} {l : Addr} {vs : List Value} {ns : List Int}
    (O : On w h₀ s.heap) (hr : Room A 200) (hfr : A.frames = some []) (hl : h₀.IsList l vs.toArray) (hi : IntsAre vs ns) (hz : ns.length ≤ 63) (hT : At h₀ s.heap 418 (tabObj #[])) (hT2 : At h₀ s.heap 554 (tabObj #[])) (CH : CodeHd h₀ 556 554)
    (ret : ∀ s' ps ps', Aft [418, 554] s s' → s'.heap.get? 418 = some (tabObj ps) → (ps = #[] ∨ ∃ c', ps = #[rawInt 221, rawInt 19, .ref c']) → s'.heap.get? 554 = some (tabObj ps') → R (.ok (.ret (.bool true))) s') :
    codeAny (model PySem.Challenge.rw_sv0019_01.row.prog w) A (.call (.ref 557) ⟨[.ref l], []⟩) R s := by
  obtain ⟨hd0, dp0, fr0, gd0, un0⟩ := A
  obtain rfl : hd0 = none := hr.hd
  have XS : (hd1.heap_39 w.params).In s.heap := O.wd.1.keeps O.stays
  have Al : AllAt h₀ s.heap [(418, tabObj #[]), (554, tabObj #[])] := List.forall_mem_cons.mpr ⟨hT, List.forall_mem_cons.mpr ⟨hT2, List.forall_mem_nil _⟩⟩
  refine' enterC _ O Al ?ho ?hcd ?hroom ?hbind ?hkind ?hnd ?_ ?c1 ?c2 ?c3
  case ho => k_is
  case hcd => k_is
  case hroom => exact hr.lt
  case hbind => exact BindsTo.of_eq rfl
  case hkind => exact rfl
  case hnd => decide +kernel
  case c1 => exact rfl
  case c2 => exact rfl
  case c3 => exact rfl
  intro g L' h₁ tk cells p₁ loose mean mg mb hg0 hg2 hk1 F N Y lL sL X T
  k_cells Y
  rename_i o1 o2 o3 o4 o5 dd1 dd2 dd3 dd4 dd5
  have kk : ∀ (ps : Array Value) (m : Str → Option Value) (s' : Shared), Fr g L' s'.heap m → (∃ ps', s'.heap.get? 418 = some (tabObj ps') ∧ (ps' = #[] ∨ ∃ c', ps' = #[rawInt 221, rawInt 19, .ref c'])) → s'.heap.get? 554 = some (tabObj ps) → Kept s s' → R (.ok (.ret (.bool true))) s' := fun ps m s' F0 z e3 K0 => by
    obtain ⟨ps', e1, e2⟩ := z
    exact ret s' ps' ps ⟨fun b o hb e => F0.keep b o (hg2 b o (by simpa using hb) e), K0.drawn, K0.os, K0.gens⟩ e1 e2 e3
  (try simp only [List.cons_append, List.nil_append] at N)
  have hlg : g.IsList l vs.toArray := hl.at fun o e => hg0 _ _ e
  have hzv : vs.length = ns.length := hi.length
  have CG := CH.keeps hg0
  have h418 : 418 < L' := lL _ (.head _)
  have h554 : 554 < L' := lL _ (.tail _ (.head _))
  have n1_418 := neN (show L' + 1 ≠ 418 from Nat.ne_of_gt (Nat.lt_succ_of_lt h418))
  have n1_554 := neN (show L' + 1 ≠ 554 from Nat.ne_of_gt (Nat.lt_succ_of_lt h554))
  have n2_418 := neN (show L' + 1 + 1 ≠ 418 from Nat.ne_of_gt (Nat.lt_succ_of_lt (Nat.lt_succ_of_lt h418)))
  have n2_554 := neN (show L' + 1 + 1 ≠ 554 from Nat.ne_of_gt (Nat.lt_succ_of_lt (Nat.lt_succ_of_lt h554)))
  have n3_418 := neN (show L' + 1 + 1 + 1 ≠ 418 from Nat.ne_of_gt (Nat.lt_succ_of_lt (Nat.lt_succ_of_lt (Nat.lt_succ_of_lt h418))))
  have n3_554 := neN (show L' + 1 + 1 + 1 ≠ 554 from Nat.ne_of_gt (Nat.lt_succ_of_lt (Nat.lt_succ_of_lt (Nat.lt_succ_of_lt h554))))
  have n4_418 := neN (show L' + 1 + 1 + 1 + 1 ≠ 418 from Nat.ne_of_gt (Nat.lt_succ_of_lt (Nat.lt_succ_of_lt (Nat.lt_succ_of_lt (Nat.lt_succ_of_lt h418)))))
  have n4_554 := neN (show L' + 1 + 1 + 1 + 1 ≠ 554 from Nat.ne_of_gt (Nat.lt_succ_of_lt (Nat.lt_succ_of_lt (Nat.lt_succ_of_lt (Nat.lt_succ_of_lt h554)))))
  have n5_418 := neN (show L' + 1 + 1 + 1 + 1 + 1 ≠ 418 from Nat.ne_of_gt (Nat.lt_succ_of_lt (Nat.lt_succ_of_lt (Nat.lt_succ_of_lt (Nat.lt_succ_of_lt (Nat.lt_succ_of_lt h418))))))
  have n5_554 := neN (show L' + 1 + 1 + 1 + 1 + 1 ≠ 554 from Nat.ne_of_gt (Nat.lt_succ_of_lt (Nat.lt_succ_of_lt (Nat.lt_succ_of_lt (Nat.lt_succ_of_lt (Nat.lt_succ_of_lt h554))))))
  (try dsimp only)
  walk_at "bf q0"
  · rename Fr _ _ _ _ => F9
    rename News _ _ _ _ => N9
    rename_i lz _ qz _ oP dP f c oc ovs t ctv doc _ tk9 hoc hov qc qf h9 oS dS
    obtain ⟨st3, hst3⟩ : ∃ st3, st3 = (bodyAt (hd1.heap_39 w.params) 557).drop 3 := ⟨_, rfl⟩
    have key := fun tk0 pos hdef => law_rest (pos := pos) (s0 := s) (A := ⟨none, dp0, fr0, gd0, un0⟩) (s := ⟨h9, s.gens, s.drawn, tk0, s.os⟩) (l0 := l) (PN := [0]) (Q := fun fl s' => R (.ok (.ret (match fl with | .ret v => v | _ => .none))) s') (hr.down 50) hfr X T h418 h554 qz.2.1 qc.1 qf hdef (by with_unfolding_all exact F9) (news_skip3 N9) hoc hov dP (by with_unfolding_all exact dd2) (by with_unfolding_all exact dd3) (by with_unfolding_all exact dd4) dS (IntsAre.cons 0 _ IntsAre.nil) (List.cons_ne_nil _ _) (by decide) ⟨rfl, rfl, id⟩ hst3 (kk _)
    refine' with_lookup (K := hd1.heap_39 w.params) (f := 557) ?ho ?_
    case ho => k_is
    intro hB hS
    unfold lawEnv at key
    rw [hS] at key
    rw [hB] at hst3
    (try dsimp only [List.drop_succ_cons, List.drop_zero] at hst3)
    subst hst3
    exact key _ _ (by rw [hB]; rfl)
  · rename Fr _ _ _ _ => F9
    rename News _ _ _ _ => N9
    rename_i Dz wsz _ iz cz lz' qz _ oP dP _ hcz f c oc ovs t ctv doc _ tk9 hoc hov qc qf h9 oS dS
    have hne : List.take 63 ns ≠ [] := fun z => by
      rw [z] at hcz
      exact hcz (by decide)
    have hle : (List.take 63 ns).length ≤ 63 := by rw [List.length_take]; omega
    obtain ⟨st3, hst3⟩ : ∃ st3, st3 = (bodyAt (hd1.heap_39 w.params) 557).drop 3 := ⟨_, rfl⟩
    have key := fun tk0 pos hdef => law_rest (pos := pos) (s0 := s) (A := ⟨none, dp0, fr0, gd0, un0⟩) (s := ⟨h9, s.gens, s.drawn, tk0, s.os⟩) (l0 := l) (PN := List.take 63 ns) (Q := fun fl s' => R (.ok (.ret (match fl with | .ret v => v | _ => .none))) s') (hr.down 50) hfr X T h418 h554 qz.1 qc.1 qf hdef (by with_unfolding_all exact F9) N9 hoc hov dP (by with_unfolding_all exact dd2) (by with_unfolding_all exact dd3) (by with_unfolding_all exact dd4) dS iz hne hle ⟨rfl, rfl, id⟩ hst3 (kk _)
    refine' with_lookup (K := hd1.heap_39 w.params) (f := 557) ?ho ?_
    case ho => k_is
    intro hB hS
    unfold lawEnv at key
    rw [hS] at key
    rw [hB] at hst3
    (try dsimp only [List.drop_succ_cons, List.drop_zero] at hst3)
    subst hst3
    exact key _ _ (by rw [hB]; rfl)
end
end
section
local macro_rules | `(tactic| walk_at "binaryOp Mod int int") => `(tactic| ((with_reducible refine mod8_nat ?_)))
local macro_rules | `(tactic| walk_at "binaryOp Mod int int") => `(tactic| ((with_reducible refine mod_any (by assumption) ?_); intro r1 hr1 hr2))
local macro_rules | `(tactic| walk_at "binaryOp FloorDiv int int") => `(tactic| ((with_reducible refine div8_nat (by omega) ?_)))
local macro_rules | `(tactic| walk_at "binaryOp LShift int int") => `(tactic| ((with_reducible refine shl1_nat (by omega) ?_)))
local macro_rules | `(tactic| walk_at "subscriptTail") => `(tactic| (k_here; (with_reducible show wpAny _ _ (subscriptTail _ _ (Value.ref _) (Value.int _ _)) _ _ _); (with_unfolding_all refine' item_ints ?k1 ?k2 ?k3 ?k4 ?k5 ?_ ?k7; (case k1 => exact News.isList (by k_asm) (by k_mem)); (case k2 => assumption); (case k3 => omega); (case k4 => omega); (case k5 => omega); (case k7 => with_unfolding_all rfl); k_whole); intro _))
local macro_rules | `(tactic| walk_at "bf dec") => `(tactic| ((try simp only [decide_eq_true_eq, decide_eq_false_iff_not, Bool.not_eq_true', Bool.not_eq_false', Bool.not_eq_true, Bool.not_eq_false, beq_iff_eq, Bool.and_eq_true, Bool.not_true, Bool.not_false]); first | rfl | omega))
local macro_rules | `(tactic| walk_at "ite") => `(tactic| (k_here; (first | (k_closed; k_dflt (first | refine ite_pos (by decide) ?_ | refine ite_neg (by decide) ?_)) | refine ite_pos (by first | assumption | (walk_at "bf dec")) ?_ | refine ite_neg (by first | assumption | (walk_at "bf dec")) ?_ | (refine bf_ite ?_ ?_ <;> intro hc)); (try dsimp only)))
local macro_rules | `(tactic| walk_at "bf steps") => `(tactic| repeat' (first | (k_unfold; (try dsimp only)) | (walk1 <;> (try dsimp only)) | fail "no step"))
local macro_rules | `(tactic| walk_at "bf enter") => `(tactic| (refine' enter _ (by assumption) (by assumption) ?ho ?hcd ?hroom ?hbind ?hloc ?_ ?c1 ?c2 ?c3 ?c4; (case ho => k_is); (case hcd => k_is); (case hroom => first | assumption | omega | exact Room.lt (by assumption)); (case hbind => first | exact BindsTo.of_eq rfl | exact binds_K (by assumption) rfl (by k_is) rfl rfl rfl); (case hloc => exact locs rfl); (case c1 => exact rfl); (case c2 => exact rfl); (case c3 => exact rfl); (case c4 => decide)))
local macro_rules | `(tactic| walk_at "getMethod ref") => `(tactic| (k_here; (with_reducible show wpAny _ _ (getMethod _ (Str.ofString "_get_optimized_params") _) _ _ _); k_dflt (refine' cm_slot ?k1 ?k2 ?k3 ?k4 ?k5 ?k6 ?k7 ?k8 ?k9 ?k10 ?k11 ?k12 ?k13 ?_; (case k1 => k_asm); (case k2 => k_asm); (case k3 => k_asm); (case k4 => k_inst); (case k5 => k_is); (case k6 => k_is); (case k7 => k_is); (case k8 => k_is); (case k9 => k_is); (case k10 => k_is); (case k11 => k_is); (case k12 => decide +kernel); (case k13 => k_is); k_whole; intro q' h' F' N' l1; (try k_lt l1))))
local macro_rules | `(tactic| walk_at "callWith ref") => `(tactic| (k_here; (with_reducible show wpAny _ _ (callWith _ _ _ (backTo _ (starEach (_ :: _) _)) []) _ _ _); k_dflt (refine' callWith_K ?k1 ?k2 ?_; (case k1 => k_asm); (case k2 => k_is); k_whole)))
local macro_rules | `(tactic| walk_at "callWith ref") => `(tactic| (k_here; (with_reducible show wpAny _ _ (callWith _ _ _ _ (backToKw _ (keywordEach (_ :: _) _))) _ _ _); k_dflt (refine' callWith_KW ?k1 ?k2 ?k3 ?_; (case k1 => k_asm); (case k2 => k_is); (case k3 => exact rfl); k_whole)))
local macro_rules | `(tactic| walk_at "call builtin:len") => `(tactic| (k_here; (with_reducible show wpAny _ _ (call (Value.builtin "len") [Value.ref _]) _ _ _); (with_unfolding_all refine' call_len_list (items := (refs _).toArray) ?k1 ?k2 ?_; (case k1 => exact News.isList (by k_asm) (by k_mem)); (case k2 => (rw [List.size_toArray]; omega)); k_whole)))
section
theorem top1 : PySem.Challenge.rw_sv0019_01.Holds := by
  refine hd1 ?_
  k_fill
  intro w s₀ s₁ mg mb G Y fa o pm cd doc dV kV ho hd hcd hD hmg hg args vals as hpre hlay hrd hwl hlo
  have KX := km_in_of Y
  have hT8 := km_tabs_of Y
  have X := (Ground.X G).1
  have V := (Ground.X G).2
  refine Ground.open G ?_
  intro T B D TE TW
  try (refine guard_noD D (by decide +kernel) ?_; clear D)
  wrow_args hpre hlay hrd hwl hlo
  rename_i ns _ _ _ _ _ _ _ lst vs _ hL _ _ _ hI _ hcond _
  have hmg' : mg (Str.ofString "law") = some (.ref fa) := hmg
  rw [mg_of (n := Str.ofString "law") (v := .ref 557) KX T.g (by k_is)] at hmg'
  cases hmg'
  have hTT : TabsAt [(422, 418), (556, 554)] s₁.heap := List.forall_mem_cons.mpr ⟨⟨codeHd_of_K (c := 422) (P := 418) KX (by kernel_rfl), hT8 418 (.head _)⟩, List.forall_mem_cons.mpr ⟨⟨codeHd_of_K (c := 556) (P := 554) KX (by kernel_rfl), hT8 554 (.tail _ (.head _))⟩, fun _ h => nomatch h⟩⟩
  have hK : noTabs (hd1.heap_39 w.params) = true := by kernel_rfl
  have O : On w (ghostOf s₁.heap [(422, 418), (556, 554)]) s₁.heap := ⟨⟨ghost_K hTT KX hK, _, _, _, _, _, ghost_top hTT T⟩, fun b o e => of_hideAll _ e⟩
  have hR : Room callerA 200 := ⟨rfl, by decide, by decide⟩
  (try dsimp only)
  refine wpAny_call ?_
  refine law_spec O hR rfl (ghost_list hTT hL) hI (by omega) ⟨hT8 418 (.head _), hideAll_none _ (.head _)⟩ ⟨hT8 554 (.tail _ (.head _)), hideAll_none _ (.tail _ (.head _))⟩ (codeHd_of_K (c := 556) (P := 554) (ghost_K hTT KX hK) (by kernel_rfl)) ?_
  intro s' ps ps' A4 hP _ hP'
  have ht := ((hTT _ (.head _)).1.tab (hTT _ (.head _)).2).isCodeTable
  have ht' := ((hTT _ (.tail _ (.head _))).1.tab (hTT _ (.tail _ (.head _))).2).isCodeTable
  show GoodWG _ _ _ _ _ _ _
  refine ⟨.inl ⟨_, ofPy (.bool true), [], rfl, fun cls => by rfl, .bool true, by first | with_unfolding_all rfl | kernel_rfl | decide +kernel, fun _ => ⟨List.nodup_nil, fun a h => nomatch h⟩⟩, ⟨fun b o e => ?_, fun b o e => ?_⟩, A4.os, A4.gens (.of_eq hg)⟩
  · by_cases hb : b = 418
    · subst hb
      rw [hT8 418 (.head _)] at e
      cases e
      exact .inr (.inl ⟨ht, rfl, #[], ps, rfl, by rw [Array.empty_append]; exact hP⟩)
    by_cases hb2 : b = 554
    · subst hb2
      rw [hT8 554 (.tail _ (.head _))] at e
      cases e
      exact .inr (.inl ⟨ht', rfl, #[], ps', rfl, by rw [Array.empty_append]; exact hP'⟩)
    · exact .inl (A4.mod b o (by simpa using ⟨hb, hb2⟩) e)
  · by_cases hb : b = 418
    · subst hb
      exact ⟨_, hP⟩
    by_cases hb2 : b = 554
    · subst hb2
      exact ⟨_, hP'⟩
    · exact ⟨o, A4.mod b o (by simpa using ⟨hb, hb2⟩) e⟩
end
end
end Bf
theorem PySem.Challenge.cw_sv0019_01_holds : PySem.Challenge.rw_sv0019_01.Holds := by
  exact Bf.top1
