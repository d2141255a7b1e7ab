import PyProof.Rows.All
import Wide.All
import OpenK.AllK
import Wide.FinOn
import PySem.Challenge.RW_xo0015_01
open PySem PySem.W PyProof.Rows
set_option Elab.async false
set_option linter.unusedVariables false
set_option maxRecDepth 100000

namespace Mine
set_option maxRecDepth 100000 in
set_option maxHeartbeats 8000000 in
open_top hd for PySem.Challenge.rw_xo0015_01
end Mine

namespace Mine
noncomputable abbrev LZ : List Str := looseW hd.view_39 [Str.ofString "_quoted", Str.ofString "_paren_depth"]
abbrev RetV (R : Tok → Value) (h₀ : Heap) (L : Addr) (m : Str → Option Value) (news : List (Addr × Obj)) (s : Shared) (Q : Value → Shared → Prop) : Prop :=
  ∀ (t : Tok) (h' : Heap) (tk' : Nat), Fr h₀ L h' m → News h₀ L h' news → Q (R t) { s with heap := h', toks := tk' }
noncomputable abbrev Spec (w : World) (mean : ExcName → Option Value) (mg mb : Str → Option Value) (f : Addr) (d u : Nat) (news : List (Addr × Obj)) (vs : List Value)
    (Ret : Heap → Addr → (Str → Option Value) → List (Addr × Obj) → Shared → (Value → Shared → Prop) → Prop) : Prop :=
  ∀ (dp un : Nat) (gd : Option (List Code)) (cn : Str) (cs : Scope) (a : Addr) (ccd : Value) (cl : List (Str × Addr)) (outer : List Env) (A₀ : Around) (base h₀ : Heap) (L : Addr) (m : Str → Option Value) (s : Shared) (Q E : Value → Shared → Prop),
    Below A₀ base outer h₀ → Fr h₀ L s.heap m → (hd.heap_39 w.params).In h₀ → News h₀ L s.heap news → Top hd.view_39 LZ mean mg mb h₀ → cs.kind = .function →
    dp + d < recursionLimit → un + u < cLine → Ret h₀ L m news s Q →
      wpAny (model PySem.Challenge.pw_xo0015_01 w) (ktrTop dp un gd cn cs L a ccd cl outer) (call (.ref f) vs) Q E s
end Mine

namespace Mine
theorem fill_a : PySem.Challenge.rw_xo0015_01 = PySem.Challenge.rw_xo0015_01 ∧ hd.heap_39 = hd.heap_39 := by
  k_fill
  exact ⟨rfl, rfl⟩
local macro_rules | `(tactic| k_room) => `(tactic| ktr_room)
section
variable (w : World) (mean : ExcName → Option Value) (mg mb : Str → Option Value) (news : List (Addr × Obj))
set_option maxHeartbeats 4000000 in
theorem fd_spec (a b : Int) (t u : Tok) (h1 : b ≠ 0) (h4 : -(2 ^ 30) < b) (h5 : b < 2 ^ 30) : Spec w mean mg mb 59 1 8 news [.int a t, .int b u] (RetV fun t => .int (a.fdiv b) t) := by
  dsimp only [Spec, RetV]
  intros
  rename_i hret
  refine wpAny_call ?_
  k_dflt cell_enter
  k_steps
  all_goals cb_end hret
set_option maxHeartbeats 4000000 in
theorem mul_spec (a b : Int) (t u : Tok) (h2 : -(2 ^ 62) < a) (h3 : a < 2 ^ 62) : Spec w mean mg mb 66 1 8 news [.int a t, .int b u] (RetV fun t => .int (a * b) t) := by
  dsimp only [Spec, RetV]
  intros
  rename_i hret
  refine wpAny_call ?_
  k_dflt cell_enter
  k_steps
  all_goals cb_end hret
def lowI (a : Int) : Int := Builtin.bitAnd a (-a)
def totI (a : Int) : Int := a + lowI a
def difI (a : Int) : Int := Builtin.bitXor a (totI a)
def stepI (a : Int) : Int := ((difI a).fdiv (lowI a)).fdiv (2 ^ Int.toNat 2) + 1
def belI (a b : Int) : Int := (-(difI a)).fdiv (2 ^ (b + 2).toNat)
def nextI (a b c : Int) : Int := Builtin.bitOr (Builtin.bitAnd (stepI a * (-(belI a b)) - 1) c) (totI a)
set_option maxHeartbeats 4000000 in
theorem next_spec (a b c : Int) (t u v : Tok) (h1 : lowI a ≠ 0) (h2 : -(2 ^ 30) < lowI a) (h3 : lowI a < 2 ^ 30) (h4 : -(2 ^ 62) < stepI a) (h5 : stepI a < 2 ^ 62)
    (h6 : 0 ≤ b) (h7 : b < 50) : Spec w mean mg mb 142 10 100 news [.int a t, .int b u, .int c v] (RetV fun t => .int (nextI a b c) t) := by
  unfold stepI difI totI lowI at *
  dsimp only [Spec, RetV]
  intros
  rename_i hret
  k_with_none
  k_with "call ref" => ((with_reducible show wpAny _ _ (call (Value.ref 59) [Value.int _ _, Value.int _ _]) _ _ _); refine' fd_spec _ _ _ _ _ _ _ _ _ ?a1 ?a2 ?a3 _ _ _ _ _ _ _ _ _ _ _ _ _ _ _ _ _ ?k1 ?k2 ?k3 ?k4 ?k5 ?k6 ?k7 ?k8 ?k9; (case a1 => assumption); (case a2 => assumption); (case a3 => assumption); (case k1 => k_asm); (case k2 => k_asm); (case k3 => k_asm); (case k4 => k_asm); (case k5 => k_asm); (case k6 => exact rfl); (case k7 => ktr_room); (case k8 => ktr_units); intro t9 h9 tk9 F9 N9; (try dsimp only); (try k_fold))
  k_with "call ref" => ((with_reducible show wpAny _ _ (call (Value.ref 66) [Value.int _ _, Value.int _ _]) _ _ _); refine' mul_spec _ _ _ _ _ _ _ _ _ ?a1 ?a2 _ _ _ _ _ _ _ _ _ _ _ _ _ _ _ _ _ ?k1 ?k2 ?k3 ?k4 ?k5 ?k6 ?k7 ?k8 ?k9; (case a1 => assumption); (case a2 => assumption); (case k1 => k_asm); (case k2 => k_asm); (case k3 => k_asm); (case k4 => k_asm); (case k5 => k_asm); (case k6 => exact rfl); (case k7 => ktr_room); (case k8 => ktr_units); intro t9 h9 tk9 F9 N9; (try dsimp only); (try k_fold))
  refine wpAny_call ?_
  k_dflt cell_enter
  k_steps
  all_goals (try cb_end hret)
end
end Mine

namespace Mine
theorem fill_b : PySem.Challenge.rw_xo0015_01 = PySem.Challenge.rw_xo0015_01 ∧ hd.heap_39 = hd.heap_39 := by
  k_fill
  exact ⟨rfl, rfl⟩
local macro_rules | `(tactic| k_room) => `(tactic| ktr_room)
section
variable (w : World) (mean : ExcName → Option Value) (mg mb : Str → Option Value) (news : List (Addr × Obj))
def apB (n : Nat) : UInt8 := UInt8.ofNat (65 + n)
def apI (n : Nat) (acc : Array UInt8) : Array UInt8 := if h : n = 0 then acc else apI (n / 16) (#[apB (n % 16)] ++ acc)
abbrev apS : Array UInt8 := #[65, 66, 67, 68, 69, 70, 71, 72, 73, 74, 75, 76, 77, 78, 79, 80]
theorem picked_one {k : Int} (h0 : 0 ≤ k) (h1 : k < 16) : KBy.picked apS (some k) (some (k + 1)) = #[apB k.toNat] := by
  have : ∀ j : Nat, j < 16 → KBy.picked apS (some (j : Int)) (some ((j : Int) + 1)) = #[apB j] := by decide +kernel
  have h := this k.toNat (by omega)
  rw [Int.toNat_of_nonneg h0] at h
  exact h
theorem picked_fmod (n : Int) : KBy.picked apS (some (n.fmod 16)) (some (n.fmod 16 + 1)) = #[apB (n.fmod 16).toNat] := picked_one (Int.fmod_nonneg_of_pos _ (by decide)) (Int.fmod_lt_of_pos _ (by decide))
def apP (a : Int) (n : Int) (v : Array UInt8) : Prop := 0 ≤ n ∧ v.size ≤ 6 ∧ n < 16 ^ (6 - v.size) ∧ apI n.toNat v = apI a.toNat #[]
theorem ap_start {a : Int} (h2 : 0 < a) (h3 : a < 2 ^ 24) : apP a (if a < 0 then -a else a) #[] := by
  rw [if_neg (by omega)]
  refine ⟨by omega, by simp, by simpa using h3, rfl⟩
theorem ap_turn {a n : Int} {v : Array UInt8} (hp : apP a n v) (hn : n ≠ 0) : apP a (n.fdiv 16) (#[apB (n.fmod 16).toNat] ++ v) := by
  obtain ⟨h1, h2, h3, h4⟩ := hp
  have hs : v.size ≤ 5 := by
    rcases Nat.lt_or_ge v.size 6 with h | h
    · omega
    · have : v.size = 6 := by omega
      rw [this] at h3; simp at h3; omega
  have e1 : n.fdiv 16 = n / 16 := Int.fdiv_eq_ediv_of_nonneg _ (by decide)
  have e2 : n.fmod 16 = n % 16 := Int.fmod_eq_emod_of_nonneg _ (by decide)
  rw [e1, e2]
  have hz : (#[apB (n % 16).toNat] ++ v).size = v.size + 1 := by simp; omega
  refine ⟨by omega, by omega, ?_, ?_⟩
  · rw [hz]
    have e : 6 - v.size = (6 - (v.size + 1)) + 1 := by omega
    rw [e, Int.pow_succ] at h3
    omega
  · rw [← h4]
    conv => rhs; rw [apI]
    have : n.toNat ≠ 0 := by omega
    rw [dif_neg this]
    have a1 : (n / 16).toNat = n.toNat / 16 := by omega
    have a2 : (n % 16).toNat = n.toNat % 16 := by omega
    rw [a1, a2]
theorem ap_less {a n : Int} {v : Array UInt8} (hp : apP a n v) (hn : n ≠ 0) : (n.fdiv 16).toNat < n.toNat := by
  have e1 : n.fdiv 16 = n / 16 := Int.fdiv_eq_ediv_of_nonneg _ (by decide)
  have := hp.1
  omega
theorem ap_done {a n : Int} {v : Array UInt8} (hp : apP a n v) (hn : n = 0) : v = apI a.toNat #[] := by
  obtain ⟨h1, h2, h3, h4⟩ := hp
  rw [← h4, hn, apI]; simp
set_option maxHeartbeats 4000000 in
theorem ap_spec (a : Int) (t : Tok) (h2 : 0 < a) (h3 : a < 2 ^ 24) : Spec w mean mg mb 135 10 100 news [.int a t] (RetV fun t => .bytes (apI a.toNat #[]) t) := by
  dsimp only [Spec, RetV]
  intros
  rename_i hret
  k_with_none
  k_with "exec While Name cons nil" => ((rename Fr _ _ _ _ => lF'); (rename News _ _ _ _ => lN'); refine' ksw_while (σ := Int × Nat × Array UInt8 × Nat) (fun _ => news) (fun c => [("num", .int c.1 c.2.1), ("val", .bytes c.2.2.1 c.2.2.2)]) (fun _ => True) ["mod"] (fun c => apP a c.1 c.2.2.1) (fun c => c.1.toNat) (_, _, _, _) lF' lN' trivial ?kk ?kp ?_ ?_; (case kk => kst_all); (case kp => exact ap_start h2 h3); intro c u h tk hf hp F8 N8; (try dsimp only [kstB] at F8 ⊢); (try k_fold))
  k_with "subscriptTail" => ((with_reducible show wpAny _ _ (subscriptTail _ (Expr.Slice _ _ none _) (Value.bytes _ _) (Value.ref _)) _ _ _); (with_reducible rename Fr _ _ _ _ => F'); (with_reducible rename News _ _ _ _ => N'); (refine KBc.slice_K (s := ⟨_, _, _, _, _⟩) F' N' (KBw.ints_list _) (by constructor) (by constructor) (by decide) ?_); intro h7 t7 k7 F7 N7 q7; clear q7)
  k_with "binaryOp Add bytes bytes" => ((rw [picked_fmod]); (refine KBy.add_bytes (by have := (by assumption : apP a _ _).2.1; simp; omega) ?_); intro _ _)
  refine wpAny_call ?_
  k_dflt cell_enter
  k_steps
  · rename News _ _ _ _ => nE'
    refine ksw_end (_, _, _, _) (by assumption) nE' ?hn trivial (by kst_all) ?hr (ap_turn (by assumption) (by assumption)) (ap_less (by assumption) (by assumption))
    case hr => ksw_same
    case hn => intro p9 h9; exact List.mem_cons_of_mem _ h9
  · rw [ap_done hp (by assumption)]
    exact hret _ _ _ (by k_asm) (by k_asm)
end
end Mine

namespace Mine
section
variable {prog : Program} {w : World} {A : Around} {E : Value → Shared → Prop} {s : Shared} {env : Env} {h₀ : Heap} {x : PySem.Str} {body : List Stmt} {Q : Flow → Shared → Prop}
theorem kst_tup {σ : Type} {D : Addr} {o : Obj} {vs : List Value} {nn : Nat} {ns : List Int} {led : List (Addr × Obj)} {m₀ : PySem.Str → Option Value} (ps : σ → List (PySem.Str × Value)) (Facts : σ → Prop) (stored : List PySem.Str) (P : List Int → σ → Prop) (c₀ : σ)
    (hi : IntsAre vs ns) (hcls : o.cls = .type "tuple") (hdat : o.data = .seq vs.toArray nn) (hlt : ∀ q ∈ led, q.1 < D) (hh : A.handled = none) (F : Fr h₀ env.locals s.heap m₀) (N : News h₀ env.locals s.heap ((D, o) :: led)) (hf : Facts c₀) (hk : ∀ p ∈ ps c₀, m₀ p.1 = some p.2) (hp : P [] c₀)
    (turn : ∀ (c : σ) (pre post : List Int) (n : Int) t (u : PySem.Str → Option Value) h tk own, ns = pre ++ n :: post → OwnOff own (led.map (·.1)) → Facts c → P pre c →
      Fr h₀ env.locals h (fun y => if y = x then some (.int n t) else kstB (fun z => if stored.contains z then u z else m₀ z) (ps c) y) → News h₀ env.locals h (led ++ own) →
      wpAny (model prog w) A (execs body env) (InvPostN h₀ env.locals (KstS (fun _ => led) ps Facts x stored m₀ P (pre ++ [n])) own (led.map (·.1)) { s with heap := h, toks := tk } Q) E { s with heap := h, toks := tk })
    (done : ∀ (c : σ) (u : PySem.Str → Option Value) h tk, Facts c → P ns c → Fr h₀ env.locals h (fun y => if y = x then u y else kstB (fun z => if stored.contains z then u z else m₀ z) (ps c) y) → News h₀ env.locals h led → Q .next { s with heap := h, toks := tk }) :
    wpAny (model prog w) A (pyIter (.ref D)) (fun it s₂ => LoopAtV prog w A h₀ env x body Q E it s₂) E s := by
  have hD : s.heap.IsTuple D vs.toArray := ⟨o, (N _ (.head _)).1, hcls, nn, hdat⟩
  have hDL : D ≠ env.locals := (N _ (.head _)).2.1
  have hDlt : D < s.heap.objs.size := Heap.lt_size (N _ (.head _)).1
  refine wpAny_pyIter_tuple hD ?_
  have W := Walks.tuple (prog := prog) (w := w) hh s.heap.objs.size D (Nat.ne_of_lt hDlt) vs.toArray
  refine loop_invN (news := led) (fun i m nx => KstS (fun _ => led) ps Facts x stored m₀ P (ns.take i) m nx) W ?_ ?_ ?_ ?_ ⟨⟨_, Heap.get?_push_size _ rfl, rfl, rfl⟩, hD.at fun o e => Heap.get?_push_of_some _ e⟩ (F.push _) (fun p hp => ⟨Heap.get?_push_of_some _ (N p (.tail _ hp)).1, (N p (.tail _ hp)).2⟩) ⟨c₀, rfl, hf, hk, fun _ _ _ _ => rfl, hp⟩ ?_ ?_
  · intro hm
    rcases List.mem_cons.mp hm with e | hm
    · exact absurd F.ns.lt (e ▸ Nat.lt_irrefl _)
    · exact absurd (List.mem_singleton.mp hm) (Ne.symm hDL)
  · intro b' hb
    rw [List.mem_singleton.mp hb]
    exact next_is_new F
  · intro p hp hI
    exact absurd (Heap.lt_size (N p (.tail _ hp)).1) ((List.mem_singleton.mp hI) ▸ Nat.lt_irrefl _)
  · intro p hp hI
    rcases List.mem_cons.mp hI with e | hI
    · exact absurd (Heap.lt_size (N p (.tail _ hp)).1) (e ▸ Nat.lt_irrefl _)
    · exact absurd (hlt p hp) ((List.mem_singleton.mp hI) ▸ Nat.lt_irrefl _)
  · rintro i v m₁ nx h tk own hi' hv _ hoff ⟨c, rfl, hf', h1, h2, hp'⟩ F₁ N₁
    have hil : i < ns.length := by rw [← hi.length, ← List.size_toArray]; exact hi'
    have hn' : ns[i]? = some ns[i] := List.getElem?_eq_getElem hil
    obtain ⟨t, ht⟩ := hi.get i ns[i] hn'
    have hv' : vs[i]? = some v := (List.getElem?_toArray ..).symm.trans hv
    obtain rfl : v = .int ns[i] t := by rw [ht] at hv'; exact (Option.some.inj hv').symm
    have hs : ns.take (i + 1) = ns.take i ++ [ns[i]] := by rw [List.take_add_one, hn']; rfl
    have e : ns = ns.take i ++ ns[i] :: ns.drop (i + 1) := by
      have ht := List.take_append_drop (i + 1) ns
      rw [hs, List.append_assoc] at ht
      exact ht.symm
    rw [hs]
    exact turn c _ _ ns[i] t m₁ h tk own e hoff hf' hp' (kst_fr h1 h2 F₁) N₁
  · rintro m₁ nx h tk ⟨c, rfl, hf', h1, h2, hp'⟩ F₁ N₁
    have hz : vs.toArray.size = ns.length := by rw [List.size_toArray, hi.length]
    rw [hz, List.take_length] at hp'
    exact done c m₁ h tk hf' hp' (kst_frOut h1 h2 F₁) N₁
end
end Mine

namespace Mine
section
variable {prog : Program} {w : World} {A : Around} {E : Value → Shared → Prop} {s : Shared} {env : Env} {h₀ : Heap} {x : PySem.Str} {body : List Stmt} {Q : Flow → Shared → Prop}
theorem kst_rangeG {σ : Type} {r : Addr} {a₀ b₀ : Int} {t₀ u₀ v₀ : Tok} {n : Nat} {m₀ : Str → Option Value} {news : List (Addr × Obj)} (Led : σ → List (Addr × Obj)) (ps : σ → List (Str × Value)) (Facts : σ → Prop) (stored : List Str) (P : List Int → σ → Prop) (c₀ : σ)
    (hh : A.handled = none) (hr : IsRange s.heap r a₀ b₀ 1 t₀ u₀ v₀) (hsmall : Builtin.Range.small a₀ b₀ 1 = true) (hsz : Builtin.Range.rangeSize a₀ b₀ 1 = (n : Int)) (F : Fr h₀ env.locals s.heap m₀) (N : News h₀ env.locals s.heap news) (hn : ∀ p ∈ Led c₀, p ∈ news) (hf : Facts c₀) (hk : ∀ p ∈ ps c₀, m₀ p.1 = some p.2) (hp : P [] c₀)
    (turn : ∀ (c : σ) (pre : List Int) (k : Int) t (u : Str → Option Value) h tk own, k = a₀ + (pre.length : Int) → pre.length < n → OwnOff own ((Led c).map (·.1)) → Facts c → P pre c →
      Fr h₀ env.locals h (fun y => if y = x then some (.int k t) else kstB (fun z => if stored.contains z then u z else m₀ z) (ps c) y) → News h₀ env.locals h (Led c ++ own) →
      wpAny (model prog w) A (execs body env) (InvPostG h₀ env.locals (KstS Led ps Facts x stored m₀ P (pre ++ [k])) own { s with heap := h, toks := tk } Q) E { s with heap := h, toks := tk })
    (done : ∀ (c : σ) (u : Str → Option Value) h tk, Facts c → P (rangeKs a₀ n) c → Fr h₀ env.locals h (fun y => if y = x then u y else kstB (fun z => if stored.contains z then u z else m₀ z) (ps c) y) → News h₀ env.locals h (Led c) → Q .next { s with heap := h, toks := tk }) :
    wpAny (model prog w) A (pyIter (.ref r)) (fun it s₂ => LoopAtV prog w A h₀ env x body Q E it s₂) E s := by
  refine wpAny_pyIter_range hr hsmall ?_
  have W : Walks prog w A s.heap.objs.size [s.heap.objs.size] [s.heap.objs.size] n (fun i v => i < n ∧ ∃ t, v = .int (a₀ + i * 1) t)
      (fun i h => IsRangeIter h s.heap.objs.size (a₀ + (i : Nat) * 1) ((n : Int) - (i : Nat)) 1) := (Walks.range hh _ a₀ 1 n).bound
  refine kdr_loop (news := Led c₀) (fun i m nx => KstS Led ps Facts x stored m₀ P ((rangeKs a₀ n).take i) m nx) W (fun _ h => h) (fun _ h => h) ?_ ?_ ?_ ?_ (by show IsRangeIter _ _ _ _ _; rw [hsz]; simpa using Heap.get?_push_size _ rfl) (F.push _) (fun p hp => ⟨Heap.get?_push_of_some _ (N p (hn p hp)).1, (N p (hn p hp)).2⟩) ⟨c₀, rfl, hf, hk, fun _ _ _ _ => rfl, hp⟩ ?_ ?_
  · intro i h hi b hb
    rw [List.mem_singleton.mp hb]
    exact ⟨_, hi⟩
  · intro hm
    exact absurd F.ns.lt ((List.mem_singleton.mp hm) ▸ Nat.lt_irrefl _)
  · intro b hb
    rw [List.mem_singleton.mp hb]
    exact next_is_new F
  · intro p hp hI
    exact absurd (Heap.lt_size (N p (hn p hp)).1) ((List.mem_singleton.mp hI) ▸ Nat.lt_irrefl _)
  · rintro i v m₁ nx h tk own hi ⟨_, t, rfl⟩ hoff ⟨c, rfl, hf', h1, h2, hp'⟩ F₁ N₁
    have e1 : a₀ + (i : Int) * 1 = a₀ + (i : Int) := by omega
    rw [e1] at F₁
    have hk' : (rangeKs a₀ n)[i]? = some (a₀ + (i : Int)) := by simp [rangeKs, hi]
    have hs : (rangeKs a₀ n).take (i + 1) = (rangeKs a₀ n).take i ++ [a₀ + (i : Int)] := by rw [List.take_add_one, hk']; rfl
    have hlen : ((rangeKs a₀ n).take i).length = i := by rw [List.length_take, rangeKs_length]; omega
    rw [hs]
    exact turn c _ _ t m₁ h tk own (by rw [hlen]) (by rw [hlen]; exact hi) hoff hf' hp' (kst_fr h1 h2 F₁) N₁
  · rintro m₁ nx h tk ⟨c, rfl, hf', h1, h2, hp'⟩ F₁ N₁
    have hl : (rangeKs a₀ n).take n = rangeKs a₀ n := List.take_of_length_le (Nat.le_of_eq (rangeKs_length _ _))
    rw [hl] at hp'
    exact done c m₁ h tk hf' hp' (kst_frOut h1 h2 F₁) N₁
theorem kst_endG {σ : Type} {Led : σ → List (Addr × Obj)} {ps : σ → List (Str × Value)} {Facts : σ → Prop} {stored : List Str} {m₀ : Str → Option Value} {P : List Int → σ → Prop} {pre : List Int} (c : σ) {L : Addr} {m' : Str → Option Value} {own news' : List (Addr × Obj)} {s₁ : Shared} {h' : Heap} {tk : Nat}
    (F : Fr h₀ L h' m') (N : News h₀ L h' news') (hn : ∀ p ∈ Led c, p ∈ news') (ho : ∀ p ∈ own, p ∈ news') (hoff : OwnOff own ((Led c).map (·.1))) (hf : Facts c) (hk : ∀ p ∈ ps c, m' p.1 = some p.2) (hr : ∀ z, z ≠ x → (∀ p ∈ ps c, z ≠ p.1) → stored.contains z = false → m' z = m₀ z) (hp : P pre c) :
    InvEndG h₀ L (KstS Led ps Facts x stored m₀ P pre) own s₁ { s₁ with heap := h', toks := tk } :=
  InvEndG.intro F N ⟨c, rfl, hf, hk, hr, hp⟩ hoff hn ho
end
end Mine

namespace Mine
def RowIs (q : Addr × Obj) (row : List Int) : Prop := ∃ vs n, q.2 = listOf (List.toArray vs) n ∧ IntsAre vs row
inductive RowsAre : List (Addr × Obj) → List (List Int) → Prop
  | nil : RowsAre [] []
  | cons {q row l M} : RowIs q row → RowsAre l M → RowsAre (q :: l) (row :: M)
theorem RowsAre.length : ∀ {l M}, RowsAre l M → l.length = M.length
  | _, _, .nil => rfl
  | _, _, .cons _ h => by rw [List.length_cons, List.length_cons, h.length]
theorem RowsAre.snoc : ∀ {l M q row}, RowsAre l M → RowIs q row → RowsAre (l ++ [q]) (M ++ [row])
  | _, _, _, _, .nil, r => .cons r .nil
  | _, _, _, _, .cons a h, r => .cons a (h.snoc r)
theorem RowsAre.get : ∀ {l M}, RowsAre l M → ∀ {i : Nat} {row}, M[i]? = some row → ∃ q, l[i]? = some q ∧ RowIs q row
  | _, _, .nil, _, _, e => by cases e
  | _, _, .cons a h, 0, _, e => by cases e; exact ⟨_, rfl, a⟩
  | _, _, .cons a h, i + 1, _, e => h.get (i := i) e
def refsOf (l : List (Addr × Obj)) : Array Value := (l.map fun q => Value.ref q.1).toArray
def MatIn (led : List (Addr × Obj)) (a : Addr) (M : List (List Int)) : Prop := ∃ objs n, (a, listOf (refsOf objs) n) ∈ led ∧ (∀ p ∈ objs, p ∈ led) ∧ RowsAre objs M
theorem MatIn.mono {led led' : List (Addr × Obj)} {a : Addr} {M : List (List Int)} (h : MatIn led a M) (hs : ∀ p ∈ led, p ∈ led') : MatIn led' a M :=
  let ⟨o, n, h1, h2, h3⟩ := h; ⟨o, n, hs _ h1, fun p hp => hs p (h2 p hp), h3⟩
def cellF (p : Nat) (last : List Int) (d : Int) : Int := (if d > 0 then last.getD (d - 1).toNat 0 else 0) + (if d < p then last.getD (d + 1).toNat 0 else 0)
def rowNext (p : Nat) (last : List Int) : List Int := (rangeKs 0 (p + 1)).map (cellF p last)
def rowW (p : Nat) : Nat → List Int
  | 0 => 1 :: List.replicate p 0
  | j + 1 => rowNext p (rowW p j)
def matW (p n : Nat) : List (List Int) := (List.range n).map (rowW p)
theorem rowW_length (p : Nat) : ∀ j, (rowW p j).length = p + 1
  | 0 => by simp [rowW]
  | j + 1 => by simp [rowW, rowNext, rangeKs]
theorem matW_get {p n i : Nat} (h : i < n) : (matW p n)[i]? = some (rowW p i) := by simp [matW, h]
theorem matW_succ (p n : Nat) : matW p (n + 1) = matW p n ++ [rowW p n] := by simp [matW, List.range_succ]
section
variable {prog : Program} {w : World} {A : Around} {E : Value → Shared → Prop} {s : Shared} {h₀ : Heap} {L : Addr} {led : List (Addr × Obj)} {value slice : PySem.Expr} {Q : Value → Shared → Prop}
theorem item_led {l : Addr} {vs : List Value} {n : Nat} {k : Int} {u : Tok} {v : Value} (N : News h₀ L s.heap led) (hm : (l, listOf vs.toArray n) ∈ led) (h0 : 0 ≤ k) (hhi : k < 2 ^ 63) (hx : vs[k.toNat]? = some v) (h : Q v s)
    (hs : subscripted slice false (.ref l) (.int k u) = operate [.ref l, .int k u] (getItem (.ref l) (.int k u)) := by with_unfolding_all rfl) :
    wpAny (model prog w) A (subscriptTail value slice (.ref l) (.int k u)) Q E s := by
  have hl : s.heap.IsList l vs.toArray := ⟨_, (N _ hm).1, rfl, n, rfl⟩
  exact tail_any hl.typeIs slot_list_getitem.lookup (wpAny_getItem_list hl h0 hhi (by rw [List.getElem?_toArray]; exact hx) h) hs
theorem item_int {l : Addr} {vs : List Value} {ns : List Int} {n : Nat} {k : Int} {u : Tok} (N : News h₀ L s.heap led) (hm : (l, listOf vs.toArray n) ∈ led) (hi : IntsAre vs ns) (h0 : 0 ≤ k) (hhi : k < 2 ^ 63) (hx : k < ns.length) (h : ∀ t, Q (.int (ns.getD k.toNat 0) t) s)
    (hs : subscripted slice false (.ref l) (.int k u) = operate [.ref l, .int k u] (getItem (.ref l) (.int k u)) := by with_unfolding_all rfl) :
    wpAny (model prog w) A (subscriptTail value slice (.ref l) (.int k u)) Q E s := by
  have hlt : k.toNat < ns.length := by omega
  obtain ⟨t, ht⟩ := hi.get k.toNat (ns[k.toNat]) (List.getElem?_eq_getElem hlt)
  have e : ns.getD k.toNat 0 = ns[k.toNat] := by rw [List.getD_eq_getElem?_getD, List.getElem?_eq_getElem hlt]; rfl
  refine item_led N hm h0 hhi ht ?_ hs
  rw [← e]
  exact h t
theorem item_row {a : Addr} {M : List (List Int)} {k : Int} {u : Tok} {row : List Int} (N : News h₀ L s.heap led) (hm : MatIn led a M) (h0 : 0 ≤ k) (hhi : k < 2 ^ 63) (hx : M[k.toNat]? = some row)
    (h : ∀ r vs n, (r, listOf (List.toArray vs) n) ∈ led → IntsAre vs row → Q (.ref r) s)
    (hs : subscripted slice false (.ref a) (.int k u) = operate [.ref a, .int k u] (getItem (.ref a) (.int k u)) := by with_unfolding_all rfl) :
    wpAny (model prog w) A (subscriptTail value slice (.ref a) (.int k u)) Q E s := by
  obtain ⟨objs, n, h1, h2, h3⟩ := hm
  obtain ⟨⟨r, o⟩, hq, vs, nn, e, hi⟩ := h3.get hx
  dsimp only at e
  subst e
  refine item_led (v := .ref r) N h1 h0 hhi ?_ (h r vs nn (h2 _ (List.mem_of_getElem? hq)) hi) hs
  rw [List.getElem?_map, hq]
  rfl
end
end Mine

namespace Mine
theorem rs0 (p : Nat) : Builtin.Range.rangeSize 0 (p : Int) 1 = (p : Int) := by rw [rangeSize_one]; split <;> omega
theorem row0_eq (p : Nat) : ([1] ++ (List.replicate ((p : Int)).toNat [(0 : Int)]).flatten) = rowW p 0 := by
  have : ∀ n : Nat, (List.replicate n [(0 : Int)]).flatten = List.replicate n 0 := fun n => by
    induction n with
    | zero => rfl
    | succ n ih => rw [List.replicate_succ, List.flatten_cons, ih, List.replicate_succ]; rfl
  rw [this, Int.toNat_natCast]; rfl
def wLed (wa : Addr) (news : List (Addr × Obj)) (c : List (Addr × Obj) × Nat) : List (Addr × Obj) := (wa, listOf (refsOf c.1) c.2) :: (c.1 ++ news)
def wP (p : Nat) (wa : Addr) (pre : List Int) (c : List (Addr × Obj) × Nat) : Prop := RowsAre c.1 (matW p (pre.length + 1)) ∧ ∀ q ∈ c.1, q.1 ≠ wa
abbrev wSt : List Str := ["last", "row", "depth", "shut", "more"]
section
variable {prog : Program} {w : World} {A : Around} {E : Value → Shared → Prop} {s : Shared} {env : Env} {h₀ : Heap} {x : PySem.Str} {body : List Stmt} {Q : Flow → Shared → Prop}
abbrev wJ (p : Nat) (wa : Addr) (news : List (Addr × Obj)) (x : Str) (m₀ : Str → Option Value) (pre : List Int) := KstS (wLed wa news) (fun _ => []) (fun _ => True) x wSt m₀ (wP p wa) pre
theorem ways_loop {wa D r : Addr} {ws : List Value} {x1 x2 x3 : Addr} {o1 o2 o3 : Obj} {news : List (Addr × Obj)} {p : Nat} {t₀ u₀ v₀ : Tok} {m₀ : Str → Option Value} (hh : A.handled = none) (hr : IsRange s.heap r 0 (p : Int) 1 t₀ u₀ v₀) (h2 : p ≤ 20) (F : Fr h₀ env.locals s.heap m₀)
    (N : News h₀ env.locals s.heap ((wa, listOf #[.ref D] 0) :: (D, listOf ws.toArray 0) :: (x1, o1) :: (x2, o2) :: (x3, o3) :: news))
    (hl : D < wa ∧ x1 < wa ∧ x2 < wa ∧ x3 < wa ∧ AllLt wa news) (hi : IntsAre ws ([1] ++ (List.replicate ((p : Int)).toNat [0]).flatten))
    (turn : ∀ (objs : List (Addr × Obj)) (n : Nat) (pre : List Int) (k : Int) t (u : Str → Option Value) h tk own, k = (pre.length : Int) → pre.length < p → RowsAre objs (matW p (pre.length + 1)) → (∀ q ∈ objs ++ (news ++ own), q.1 ≠ wa) → OwnOff own ((wLed wa news (objs, n)).map (·.1)) →
      Fr h₀ env.locals h (fun y => if y = x then some (.int k t) else if wSt.contains y then u y else m₀ y) → News h₀ env.locals h ((wa, listOf (refsOf objs) n) :: (objs ++ (news ++ own))) →
      wpAny (model prog w) A (execs body env) (InvPostG h₀ env.locals (wJ p wa news x m₀ (pre ++ [k])) own { s with heap := h, toks := tk } Q) E { s with heap := h, toks := tk })
    (done : ∀ (objs : List (Addr × Obj)) (n : Nat) (u : Str → Option Value) h tk, RowsAre objs (matW p (p + 1)) → Fr h₀ env.locals h (fun y => if y = x then u y else if wSt.contains y then u y else m₀ y) → News h₀ env.locals h ((wa, listOf (refsOf objs) n) :: (objs ++ news)) → Q .next { s with heap := h, toks := tk }) :
    wpAny (model prog w) A (pyIter (.ref r)) (fun it s₂ => LoopAtV prog w A h₀ env x body Q E it s₂) E s := by
  have hnw := kst_ltOf hl.2.2.2.2
  refine kst_rangeG (n := p) (wLed wa news) (fun _ => []) (fun _ => True) wSt (wP p wa) ([(D, listOf ws.toArray 0)], 0) hh hr (small_one (by decide) (by decide) (by omega) (by omega)) (rs0 p) F N ?_ trivial (fun _ h => nomatch h) ?_ ?_ ?_
  · intro q hq
    simp only [wLed, List.mem_cons, List.mem_append, List.not_mem_nil, or_false] at hq ⊢
    rcases hq with rfl | rfl | hq
    · exact .inl rfl
    · exact .inr (.inl rfl)
    · exact .inr (.inr (.inr (.inr (.inr hq))))
  · refine ⟨?_, fun q hq => ?_⟩
    · rw [row0_eq] at hi
      exact .cons ⟨ws, 0, rfl, hi⟩ .nil
    · simp only [List.mem_cons, List.not_mem_nil, or_false] at hq
      subst hq
      exact Nat.ne_of_lt hl.1
  · rintro ⟨objs, n⟩ pre k t u h tk own hk hlt hoff _ ⟨h3, h4⟩ F₁ N₁
    have hk' : k = (pre.length : Int) := by omega
    have N₂ : News h₀ env.locals h ((wa, listOf (refsOf objs) n) :: (objs ++ (news ++ own))) := by
      have e : wLed wa news (objs, n) ++ own = (wa, listOf (refsOf objs) n) :: (objs ++ (news ++ own)) := by simp [wLed]
      rw [e] at N₁; exact N₁
    refine turn objs n pre k t u h tk own hk' hlt h3 (fun q hq => ?_) hoff F₁ N₂
    rcases List.mem_append.mp hq with hq | hq
    · exact h4 q hq
    · rcases List.mem_append.mp hq with hq | hq
      · exact Nat.ne_of_lt (hnw q hq)
      · exact hoff q hq wa (by simp [wLed])
  · rintro ⟨objs, n⟩ u h tk _ ⟨h3, _⟩ F₁ N₁
    rw [rangeKs_length] at h3
    exact done objs n u h tk h3 F₁ N₁
theorem ways_end {wa ra : Addr} {objs : List (Addr × Obj)} {n nn : Nat} {vs : List Value} {news own : List (Addr × Obj)} {p : Nat} {k : Int} {pre : List Int} {m₀ m' : Str → Option Value} {L : Addr} {s₁ : Shared} {h' : Heap} {tk : Nat}
    (F : Fr h₀ L h' m') (N : News h₀ L h' ((ra, listOf vs.toArray nn) :: (wa, listOf ((refsOf objs).push (.ref ra)) (n + 1)) :: (objs ++ (news ++ own)))) (hlt : ∀ q ∈ ((wa, listOf (refsOf objs) n) :: (objs ++ (news ++ own))), q.1 < ra)
    (hoff : OwnOff own ((wLed wa news (objs, n)).map (·.1))) (hr : RowsAre objs (matW p (pre.length + 1))) (hne : ∀ q ∈ objs ++ (news ++ own), q.1 ≠ wa) (hv : IntsAre vs (rowNext p (rowW p pre.length)))
    (hst : ∀ z, z ≠ x → wSt.contains z = false → m' z = m₀ z) : InvEndG h₀ L (wJ p wa news x m₀ (pre ++ [k])) own s₁ { s₁ with heap := h', toks := tk } := by
  have er : refsOf (objs ++ [(ra, listOf vs.toArray nn)]) = (refsOf objs).push (.ref ra) := by simp [refsOf]
  refine kst_endG (Led := wLed wa news) (objs ++ [(ra, listOf vs.toArray nn)], n + 1) F N ?_ ?_ ?_ trivial (fun _ h => nomatch h) (fun z h1 _ h3 => hst z h1 h3) ⟨?_, ?_⟩
  · intro q hq
    simp only [wLed, er, List.mem_cons, List.mem_append, List.not_mem_nil, or_false] at hq ⊢
    rcases hq with hq | (hq | hq) | hq
    · exact .inr (.inl hq)
    · exact .inr (.inr (.inl hq))
    · exact .inl hq
    · exact .inr (.inr (.inr (.inl hq)))
  · intro q hq
    simp only [List.mem_cons, List.mem_append]
    exact .inr (.inr (.inr (.inr hq)))
  · intro q hq b hb
    obtain ⟨q', hq', rfl⟩ := List.mem_map.mp hb
    have hqr : q.1 < ra := hlt q (by simp only [List.mem_cons, List.mem_append]; exact .inr (.inr (.inr hq)))
    simp only [wLed, List.mem_cons, List.mem_append, List.not_mem_nil, or_false] at hq'
    rcases hq' with rfl | (hq' | rfl) | hq'
    · exact hoff q hq wa (by simp [wLed])
    · exact hoff q hq q'.1 (List.mem_map.mpr ⟨q', by simp [wLed, hq'], rfl⟩)
    · exact Nat.ne_of_lt hqr
    · exact hoff q hq q'.1 (List.mem_map.mpr ⟨q', by simp [wLed, hq'], rfl⟩)
  · rw [List.length_append, show ([k] : List Int).length = 1 from rfl, matW_succ]
    exact hr.snoc ⟨vs, nn, rfl, hv⟩
  · intro q hq
    rcases List.mem_append.mp hq with hq | hq
    · exact hne q (List.mem_append_left _ hq)
    · rw [List.mem_singleton.mp hq]
      exact Nat.ne_of_gt (hlt (wa, listOf (refsOf objs) n) (.head _))
abbrev rSt : List Str := ["shut", "more"]
def rLed (ra : Addr) (rest : List (Addr × Obj)) (c : List Value × List Int × Nat) : List (Addr × Obj) := (ra, listOf c.1.toArray c.2.2) :: rest
abbrev rJ (p : Nat) (last : List Int) (ra : Addr) (rest : List (Addr × Obj)) (x : Str) (m₀ : Str → Option Value) (pre : List Int) := KstS (rLed ra rest) (fun _ => []) (fun c => IntsAre c.1 c.2.1) x rSt m₀ (fun pre c => c.2.1 = pre.map (cellF p last)) pre
theorem row_loop {ra r : Addr} {rest : List (Addr × Obj)} {p : Nat} (last : List Int) {t₀ u₀ v₀ : Tok} {m₀ : Str → Option Value} (hh : A.handled = none) (hr : IsRange s.heap r 0 ((p : Int) + 1) 1 t₀ u₀ v₀) (h2 : p ≤ 20) (F : Fr h₀ env.locals s.heap m₀)
    (N : News h₀ env.locals s.heap ((ra, listOf #[] 0) :: rest)) (hl : ∀ q ∈ rest, q.1 < ra)
    (turn : ∀ (vs : List Value) (n : Nat) (pre : List Int) (k : Int) t (u : Str → Option Value) h tk own, k = (pre.length : Int) → pre.length < p + 1 → IntsAre vs (pre.map (cellF p last)) → (∀ q ∈ rest ++ own, q.1 ≠ ra) →
      Fr h₀ env.locals h (fun y => if y = x then some (.int k t) else if rSt.contains y then u y else m₀ y) → News h₀ env.locals h ((ra, listOf vs.toArray n) :: (rest ++ own)) →
      wpAny (model prog w) A (execs body env) (InvPostN h₀ env.locals (rJ p last ra rest x m₀ (pre ++ [k])) own (ra :: rest.map (·.1)) { s with heap := h, toks := tk } Q) E { s with heap := h, toks := tk })
    (done : ∀ (vs : List Value) (n : Nat) (u : Str → Option Value) h tk, IntsAre vs (rowNext p last) → Fr h₀ env.locals h (fun y => if y = x then u y else if rSt.contains y then u y else m₀ y) → News h₀ env.locals h ((ra, listOf vs.toArray n) :: rest) → Q .next { s with heap := h, toks := tk }) :
    wpAny (model prog w) A (pyIter (.ref r)) (fun it s₂ => LoopAtV prog w A h₀ env x body Q E it s₂) E s := by
  have hs : Builtin.Range.rangeSize 0 ((p : Int) + 1) 1 = ((p + 1 : Nat) : Int) := by rw [rangeSize_one]; split <;> omega
  refine kst_range (n := p + 1) (rLed ra rest) (fun _ => []) (fun c => IntsAre c.1 c.2.1) rSt (fun pre c => c.2.1 = pre.map (cellF p last)) ([], [], 0) hh hr (small_one (by decide) (by decide) (by omega) (by omega)) hs F N .nil (fun _ h => nomatch h) rfl ?_ ?_
  · rintro ⟨vs, ns, n⟩ pre k t u h tk own hk hlt hoff hf hp F₁ N₁
    dsimp only at hf hp
    subst hp
    refine turn vs n pre k t u h tk own (by omega) hlt hf (fun q hq => ?_) F₁ N₁
    rcases List.mem_append.mp hq with hq | hq
    · exact Nat.ne_of_lt (hl q hq)
    · exact hoff q hq ra (by simp [rLed])
  · rintro ⟨vs, ns, n⟩ u h tk hf hp F₁ N₁
    dsimp only at hf hp
    subst hp
    exact done vs n u h tk hf F₁ N₁
theorem row_end {ra : Addr} {rest own : List (Addr × Obj)} {p : Nat} {last : List Int} {vs : List Value} {n : Nat} {k v : Int} {t : Tok} {pre : List Int} {m₀ m' : Str → Option Value} {L : Addr} {s₁ : Shared} {h' : Heap} {tk : Nat}
    (F : Fr h₀ L h' m') (N : News h₀ L h' ((ra, listOf (vs.toArray.push (.int v t)) (n + 1)) :: (rest ++ own))) (hi : IntsAre vs (pre.map (cellF p last))) (hv : v = cellF p last k) (hst : ∀ z, z ≠ x → rSt.contains z = false → m' z = m₀ z) :
    InvEndN h₀ L (rJ p last ra rest x m₀ (pre ++ [k])) own (ra :: rest.map (·.1)) s₁ { s₁ with heap := h', toks := tk } := by
  rw [List.push_toArray] at N
  refine kst_end (Led := rLed ra rest) (vs ++ [.int v t], (pre ++ [k]).map (cellF p last), n + 1) F N ?_ ?_ rfl ?_ (fun _ h => nomatch h) (fun z h1 _ h3 => hst z h1 h3) rfl
  · intro q hq
    simp only [rLed, List.mem_cons, List.mem_append] at hq ⊢
    rcases hq with hq | hq
    · exact .inl hq
    · exact .inr (.inl hq)
  · intro q hq
    simp only [List.mem_cons, List.mem_append]
    exact .inr (.inr hq)
  · show IntsAre (vs ++ [.int v t]) ((pre ++ [k]).map (cellF p last))
    rw [List.map_append, hv]
    have : ∀ {vs : List Value} {ns : List Int}, IntsAre vs ns → ∀ {a : Int} {t : Tok}, IntsAre (vs ++ [.int a t]) (ns ++ [a]) := by
      intro vs ns h
      induction h with
      | nil => intro a t; exact .cons _ _ .nil
      | cons n t _ ih => intro a t'; exact .cons _ _ ih
    exact this hi
end
end Mine

namespace Mine
theorem fill_c : PySem.Challenge.rw_xo0015_01 = PySem.Challenge.rw_xo0015_01 ∧ hd.heap_39 = hd.heap_39 := by
  k_fill
  exact ⟨rfl, rfl⟩
local macro_rules | `(tactic| k_room) => `(tactic| ktr_room)
section
variable (w : World) (mean : ExcName → Option Value) (mg mb : Str → Option Value) (news : List (Addr × Obj))
def brk (n k : Int) : Str := if ((n - 65).fdiv k).fmod 2 = 1 then Str.ofString "(" else Str.ofString ")"
theorem brk_len (n k : Int) : (brk n k).length = 1 := by unfold brk; split <;> decide
def lt4 (s : Str) (n : Int) : Str := [8, 4, 2, 1].foldl (fun s k => s ++ brk n k) s
def ltP (pre : List Int) (s : Str) : Prop := s = pre.foldl lt4 (Str.ofString "") ∧ s.length ≤ 4 * pre.length
def l4P (n : Int) (s₀ : Str) (pre : List Int) (s : Str) : Prop := s = pre.foldl (fun s k => s ++ brk n k) s₀ ∧ s.length ≤ s₀.length + pre.length
theorem four_mem {pre post : List Int} {n : Int} (h : [8, 4, 2, 1] = pre ++ n :: post) : 0 < n ∧ n ≤ 8 := by
  have h1 : n ∈ ([8, 4, 2, 1] : List Int) := by rw [h]; exact List.mem_append_right _ (List.mem_cons_self ..)
  simp only [List.mem_cons, List.not_mem_nil, or_false] at h1
  omega
theorem four_len {pre post : List Int} {n : Int} (h : [8, 4, 2, 1] = pre ++ n :: post) : pre.length ≤ 3 := by
  have h1 := congrArg List.length h
  simp only [List.length_append, List.length_cons, List.length_nil] at h1
  omega
theorem lt_room {n : Int} {s₀ s : Str} {pre pre1 post1 : List Int} {n1 : Int} {k : Nat} (hp : ltP pre s₀) (hlt : pre.length < k) (hk : k ≤ 100) (hp1 : l4P n s₀ pre1 s) (hks : [8, 4, 2, 1] = pre1 ++ n1 :: post1) : s.length ≤ 500 := by
  have h1 := hp.2
  have h2 := hp1.2
  have h3 := four_len hks
  omega
theorem lt_size {s y : Str} (h : s.length ≤ 500) (hy : y.length = 1) : s.length + y.length ≤ sizeLine := by
  rw [sizeLine_eq]; omega
theorem l4_yes {n n1 : Int} {s₀ s : Str} {pre : List Int} (hp : l4P n s₀ pre s) (h : ((n - 65).fdiv n1).fmod 2 = 1) : l4P n s₀ (pre ++ [n1]) (s ++ Str.ofString "(") := by
  obtain ⟨h1, h2⟩ := hp
  refine ⟨?_, ?_⟩
  · rw [List.foldl_append, ← h1]
    show _ = s ++ brk n n1
    rw [brk, if_pos h]
  · rw [Str.length_append, List.length_append]
    have : (Str.ofString "(").length = 1 := by decide
    have : ([n1] : List Int).length = 1 := rfl
    omega
theorem l4_no {n n1 : Int} {s₀ s : Str} {pre : List Int} (hp : l4P n s₀ pre s) (h : ¬ ((n - 65).fdiv n1).fmod 2 = 1) : l4P n s₀ (pre ++ [n1]) (s ++ Str.ofString ")") := by
  obtain ⟨h1, h2⟩ := hp
  refine ⟨?_, ?_⟩
  · rw [List.foldl_append, ← h1]
    show _ = s ++ brk n n1
    rw [brk, if_neg h]
  · rw [Str.length_append, List.length_append]
    have : (Str.ofString ")").length = 1 := by decide
    have : ([n1] : List Int).length = 1 := rfl
    omega
theorem lt_turn {n : Int} {s₀ s : Str} {pre : List Int} (hp : ltP pre s₀) (hp1 : l4P n s₀ [8, 4, 2, 1] s) : ltP (pre ++ [n]) s := by
  obtain ⟨h1, h2⟩ := hp
  obtain ⟨h3, h4⟩ := hp1
  refine ⟨?_, ?_⟩
  · rw [List.foldl_append, ← h1]
    exact h3
  · rw [List.length_append]
    have : ([n] : List Int).length = 1 := rfl
    have : ([8, 4, 2, 1] : List Int).length = 4 := rfl
    omega
theorem lt_start : ltP [] (Str.ofString "") := ⟨rfl, by decide⟩
theorem l4_start {n : Int} {s : Str} : l4P n s [] s := ⟨rfl, by simp⟩
local macro_rules | `(tactic| walk_at "exec For Name Tuple cons nil") => `(tactic| (k_here; (rename Fr _ _ _ _ => lF'); (with_unfolding_all refine' For_invVF lF' ?k1 ?k2 ?_; (case k1 => exact rfl); (case k2 => exact rfl); k_whole)))
set_option maxHeartbeats 4000000 in
theorem lt_spec (b : Array UInt8) (t : Tok) (h2 : b.size ≤ 100) : Spec w mean mg mb 163 10 100 news [.bytes b t] (RetV fun t => .str ((KBw.bInts b).foldl lt4 (Str.ofString "")) t) := by
  dsimp only [Spec, RetV]
  intros
  rename_i hret
  k_with_none
  k_with "exec For Name Name cons nil" => ((rename Fr _ _ _ _ => lF'); (with_unfolding_all refine' For_invVF lF' ?k1 ?k2 ?_; (case k1 => exact rfl); (case k2 => exact rfl); k_whole))
  k_with "pyIter bytes" => ((rename Fr _ _ _ _ => lF'); (rename News _ _ _ _ => lN'); refine' KStb.kst_bytes (σ := Str × Nat) (fun _ => news) (fun c => [("text", .str c.1 c.2)]) (fun _ => True) ["one"] (fun pre c => ltP pre c.1) (_, _) rfl (KBw.ints_length _) (by rfl) lF' lN' trivial ?kk ?kp ?turn ?done; (case kk => kst_all); (case kp => exact lt_start); (all_goals (clear lF' lN')); (case' done => (intro c u h tk hl hf hp F8 N8; (try dsimp only [kstB] at F8 ⊢); (try k_fold))); (case' turn => (intro c pre post n t' u h tk own hks hlt hlo hhi hoff hf hp F8 N8; (try dsimp only [kstB] at F8 ⊢); (try k_fold))))
  k_with "pyIter ref" => ((rename Fr _ _ _ _ => lF'); (rename News _ _ _ _ => lN'); refine' kst_tup (σ := Str × Nat) (ns := [8, 4, 2, 1]) (fun c => [("text", .str c.1 c.2)]) (fun _ => True) [] (fun pre1 c1 => l4P n c.1 pre1 c1.1) (_, _) (.cons _ _ (.cons _ _ (.cons _ _ (.cons _ _ .nil)))) ?hb1 ?hc1 ?ha1 ?hh1 ?hF1 ?hN1 trivial ?kk1 ?kp1 ?turn1 ?done1; (case hF1 => exact lF'); (case hN1 => exact lN'); (case hb1 => rfl); (case hc1 => rfl); (case hh1 => rfl); (case ha1 => assumption); (case kk1 => kst_all); (case kp1 => exact l4_start); (all_goals (clear lF' lN')); (case' done1 => (intro c1 u1 h1 tk1 hf1 hp1 F7 N7; (try dsimp only [kstB] at F7 ⊢); (try k_fold))); (case' turn1 => (intro c1 pre1 post1 n1 t1 u1 h1 tk1 own1 hks1 hoff1 hf1 hp1 F7 N7; obtain ⟨hn1, hn2⟩ := four_mem hks1; have hz1 := lt_room hp hlt h2 hp1 hks1; (try dsimp only [kstB] at F7 ⊢); (try k_fold))))
  k_with "inplaceOp Add str str" => ((refine PyProof.Rows.iadd_str ?_ (lt_size hz1 (by decide))); intro _ _)
  refine wpAny_call ?_
  k_dflt cell_enter
  k_steps
  · rename News _ _ _ _ => nE'
    refine kst_end (_, _) (by assumption) nE' ?hn ?ho rfl trivial (by kst_all) ?hr (l4_yes hp1 (by first | assumption | simp_all))
    case hn => exact fun p h => List.mem_append_left _ h
    case ho => exact fun p h => List.mem_append_right _ h
    case hr => intro z h1 h2 h3; have e2 := h2 _ (.head _); simp_all
  · rename News _ _ _ _ => nE'
    refine kst_end (_, _) (by assumption) nE' ?hn ?ho rfl trivial (by kst_all) ?hr (l4_no hp1 (by first | assumption | simp_all))
    case hn => exact fun p h => List.mem_append_left _ h
    case ho => exact fun p h => List.mem_append_right _ h
    case hr => intro z h1 h2 h3; have e2 := h2 _ (.head _); simp_all
  · rename News _ _ _ _ => nE'
    refine kst_end (_, _) (by assumption) nE' ?hn ?ho rfl trivial (by kst_all) ?hr (lt_turn hp hp1)
    case hn => exact fun p h => List.mem_append_left _ h
    case ho => exact fun p h => List.mem_append_right _ h
    case hr => intro z h1 h2 h3; have e2 := h2 _ (.head _); simp_all
  · rw [hp.1]
    exact hret _ _ _ (by k_asm) (by k_asm)
end
end Mine

namespace Mine
open Builtin
def runT {α : Type} : Nat → List (Addr × Obj) → Sem α → Sem α
  | 0, _, t => t
  | n + 1, ans, .rule _ k => runT n ans (k ())
  | n + 1, ans, .at _ k => runT n ans (k ())
  | n + 1, ans, .point _ k => runT n ans (k ())
  | n + 1, p :: r, .load _ _ k => runT n r (k p.2)
  | _ + 1, _, t => t
def runP {α : Type} : Nat → List (Addr × Obj) → Sem α → Prop
  | 0, _, _ => True
  | n + 1, ans, .rule _ k => runP n ans (k ())
  | n + 1, ans, .at _ k => runP n ans (k ())
  | n + 1, ans, .point _ k => runP n ans (k ())
  | n + 1, p :: r, .load a _ k => a = p.1 ∧ runP n r (k p.2)
  | _ + 1, _, _ => True
section
variable {α : Type} {M : Model} {A : Around} {Q : α → Shared → Prop} {E : Value → Shared → Prop} {s : Shared}
theorem run_ok : ∀ (n : Nat) (ans : List (Addr × Obj)) (t : Sem α), (∀ p ∈ ans, s.heap.get? p.1 = some p.2) → runP n ans t → wpAny M A (runT n ans t) Q E s → wpAny M A t Q E s
  | 0, _, _, _, _, h => h
  | n + 1, ans, .rule _ k, ha, hp, h => fun Γ p hΓ => run_ok n ans (k ()) ha hp h Γ p hΓ
  | n + 1, ans, .at q k, ha, hp, h => fun Γ _ hΓ => run_ok n ans (k ()) ha hp h Γ q hΓ
  | n + 1, ans, .point _ k, ha, hp, h => fun Γ p hΓ => run_ok n ans (k ()) ha hp h Γ p hΓ
  | n + 1, q :: r, .load a part k, ha, hp, h => fun Γ p hΓ => by
    obtain ⟨e, hp⟩ := hp
    subst e
    have x := run_ok n r (k q.2) (fun p hp => ha p (.tail _ hp)) hp h Γ p hΓ
    rw [Sem.wp_load]
    exact ⟨q.2, ha q (.head _), x⟩
  | _ + 1, [], .load .., _, _, h => h
  | _ + 1, _, .pure _, _, _, h => h
  | _ + 1, _, .raise _, _, _, h => h
  | _ + 1, _, .unsupported _, _, _, h => h
  | _ + 1, _, .finish _, _, _, h => h
  | _ + 1, _, .update .., _, _, h => h
  | _ + 1, _, .alloc .., _, _, h => h
  | _ + 1, _, .loadIfAlive .., _, _, h => h
  | _ + 1, _, .register .., _, _, h => h
  | _ + 1, _, .fresh _, _, _, h => h
  | _ + 1, _, .ask _, _, _, h => h
  | _ + 1, _, .choose .., _, _, h => h
  | _ + 1, _, .os .., _, _, h => h
  | _ + 1, _, .call .., _, _, h => h
  | _ + 1, _, .handled .., _, _, h => h
  | _ + 1, _, .newGen .., _, _, h => h
  | _ + 1, _, .genState .., _, _, h => h
  | _ + 1, _, .resume .., _, _, h => h
  | _ + 1, _, .yield .., _, _, h => h
  | _ + 1, _, .stack _, _, _, h => h
  | _ + 1, _, .fork .., _, _, h => h
  | _ + 1, _, .thread _, _, _, h => h
  | _ + 1, _, .await .., _, _, h => h
end
def codeO : Obj := { cls := .type "tuple", data := .seq #[.int 14 0, .int 8 0, .int 1 0, .int 2 0, .int 4294967295 0, .int 1 0, .int 1 0, .int 34 0, .int 0 0, .int 16 0, .int 34 0, .int 28 0, .int 22 0, .int 0 0, .int 4294967295 0, .int 7 0, .int 11 0, .int 13 0, .int 7 0, .int 21 0, .int 16 0, .int 34 0, .int 16 0, .int 92 0, .int 0 0, .int 15 0, .int 8 0, .int 6 0, .int 16 0, .int 92 0, .int 2 0, .int 15 0, .int 2 0, .int 0 0, .int 1 0, .int 16 0, .int 34 0, .int 1 0] }
def patO (p a b : Value) : Obj := { cls := .type "re.Pattern", data := .fields #[p, a, .int 0 0, .none, .none, .ref 119, .int 1 0] }
abbrev lo (xs : Array Value) (n : Nat) : Obj := { cls := .type "list", data := .seq xs n }
abbrev loopArgs (b : Array UInt8) (t u : Tok) (a : Addr) : Args := ⟨[.ref 120, .bytes b u, .bytes #[] t, rawInt 0, rawInt 0, rawInt 0, rawInt 0, rawInt 0, .bool false, .ref a, .bool false], []⟩
theorem slot_re_Pattern_sub : Slot "re.Pattern" "sub" "re.Pattern.sub" :=
  .of (owner := "re.Pattern") (n := "sub") (by rw [typeLookup_type, builtinLookup_eq_fast]; kernel_rfl) (by decide +kernel) (by decide +kernel) (by decide +kernel)
    (by first | exact .inl (by decide +kernel) | exact .inr (by decide +kernel)) (by rw [isSubtype_type]; kernel_rfl)
theorem type_re_Pattern_sub : typeOf (.builtin "re.Pattern.sub") = pure (.type "method_descriptor") := by show builtinType _ = _; rw [builtinType_eq_fast]; kernel_rfl
theorem entry_re_Pattern_sub : entryFor table "re.Pattern.sub" = some Builtin.«re.Pattern.sub» := entryFor_of_tree (by kernel_rfl)
theorem owner_pat : Manifest.owners.lookup (String.ofList ['n', 'r', 'e', 't', 't', 'a', 'P', '.', 'e', 'r'].reverse) = some Manifest.sig_re_Pattern := by kernel_rfl
theorem args_re_Pattern_sub (a b c : Value) : argsOk "re.Pattern.sub" ⟨[a, b, c], []⟩ := by
  unfold argsOk; rw [signature?_of (id := "re.Pattern.sub") (n := ['b', 'u', 's']) (o := ['n', 'r', 'e', 't', 't', 'a', 'P', '.', 'e', 'r']) (by kernel_rfl) owner_pat]; kernel_rfl
theorem slot_bytes_count : Slot "bytes" "count" "bytes.count" :=
  .of (owner := "bytes") (n := "count") (by rw [typeLookup_type, builtinLookup_eq_fast]; kernel_rfl) (by decide +kernel) (by decide +kernel) (by decide +kernel)
    (by first | exact .inl (by decide +kernel) | exact .inr (by decide +kernel)) (by rw [isSubtype_type]; kernel_rfl)
theorem type_bytes_count : typeOf (.builtin "bytes.count") = pure (.type "method_descriptor") := by show builtinType _ = _; rw [builtinType_eq_fast]; kernel_rfl
theorem entry_bytes_count : entryFor table "bytes.count" = some Builtin.«bytes.count» := entryFor_of_tree (by kernel_rfl)
theorem args_bytes_count (a b : Value) : argsOk "bytes.count" ⟨[a, b], []⟩ := by
  unfold argsOk; rw [signature?_of (id := "bytes.count") (n := ['t', 'n', 'u', 'o', 'c']) (o := ['s', 'e', 't', 'y', 'b']) (by kernel_rfl) FB.owner_bytes]; kernel_rfl
theorem slot_bytes_join : Slot "bytes" "join" "bytes.join" :=
  .of (owner := "bytes") (n := "join") (by rw [typeLookup_type, builtinLookup_eq_fast]; kernel_rfl) (by decide +kernel) (by decide +kernel) (by decide +kernel)
    (by first | exact .inl (by decide +kernel) | exact .inr (by decide +kernel)) (by rw [isSubtype_type]; kernel_rfl)
theorem type_bytes_join : typeOf (.builtin "bytes.join") = pure (.type "method_descriptor") := by show builtinType _ = _; rw [builtinType_eq_fast]; kernel_rfl
theorem entry_bytes_join : entryFor table "bytes.join" = some Builtin.«bytes.join» := entryFor_of_tree (by kernel_rfl)
theorem args_bytes_join (a b : Value) : argsOk "bytes.join" ⟨[a, b], []⟩ := by
  unfold argsOk; rw [signature?_of (id := "bytes.join") (n := ['n', 'i', 'o', 'j']) (o := ['s', 'e', 't', 'y', 'b']) (by kernel_rfl) FB.owner_bytes]; kernel_rfl
theorem plainAttrs_pat : PlainAttrs "re.Pattern" :=
  ⟨⟨"object.__getattribute__", by rw [typeLookup_type, builtinLookup_eq_fast]; kernel_rfl, by decide +kernel⟩, by rw [typeLookup_type, builtinLookup_eq_fast]; kernel_rfl⟩
theorem entry_loop : entryFor table "re.Pattern.sub.loop" = some Builtin.«re.Pattern.sub.loop» := entryFor_of_tree (by kernel_rfl)
def headN {α : Type} : Sem α → Nat
  | .pure _ => 1 | .raise _ => 2 | .unsupported _ => 3 | .rule .. => 4 | .load .. => 5 | .fresh _ => 6 | .call .. => 7 | .update .. => 8 | .ask _ => 9 | .alloc .. => 10 | _ => 11
def kF {α : Type} : Sem α → Tok → Sem α | .fresh k, t => k t | x, _ => x
def kU {α : Type} : Sem α → Sem α | .update _ _ _ k => k () | x => x
def fU {α : Type} : Sem α → Obj → Obj | .update _ _ f _, o => f o | _, o => o
def aU {α : Type} : Sem α → Addr | .update a _ _ _ => a | _ => 0
section
variable {α : Type} {M : Model} {A : Around} {Q : α → Shared → Prop} {E : Value → Shared → Prop} {s : Shared}
theorem go_fresh {t : Sem α} (h : headN t = 6) (x : wpAny M A (kF t s.toks) Q E { s with toks := s.toks + 1 }) : wpAny M A t Q E s := by
  cases t <;> first | exact x | cases h
theorem go_update {t : Sem α} {a : Addr} {o : Obj} (h : headN t = 8) (ha : aU t = a) (ho : s.heap.get? a = some o) (x : wpAny M A (kU t) Q E { s with heap := s.heap.update a (fU t) }) : wpAny M A t Q E s := by
  cases t with
  | update b p f k =>
    cases ha
    exact wpAny_bind (m := updatePart b p f) (f := k) (wpAny_updatePart ho x)
  | _ => cases h
end
section
variable (p q r : Value) (t u : Tok) (a : Addr) (k j : Tok)
set_option maxHeartbeats 1000000 in
theorem sub0_40 : runT 300 [(120, patO p q r), (119, codeO)] («re.Pattern.sub» ⟨[.ref 120, .bytes #[] t, .bytes #[40] u], []⟩) = .alloc (lo #[] 0) (fun a => pure (.again (.builtin "re.Pattern.sub.loop" (loopArgs #[40] t u a)))) := by kernel_rfl
theorem sub0p_40 : runP 300 [(120, patO p q r), (119, codeO)] («re.Pattern.sub» ⟨[.ref 120, .bytes #[] t, .bytes #[40] u], []⟩) = (120 = 120 ∧ 119 = 119 ∧ True) := by kernel_rfl
abbrev L1_40 := runT 600 [(120, patO p q r), (119, codeO)] («re.Pattern.sub.loop» (loopArgs #[40] t u a))
theorem L1p_40 : runP 600 [(120, patO p q r), (119, codeO)] («re.Pattern.sub.loop» (loopArgs #[40] t u a)) = (120 = 120 ∧ 119 = 119 ∧ True) := by kernel_rfl
theorem L1h_40 : headN (L1_40 p q r t u a) = 6 := by kernel_rfl
abbrev L2_40 := runT 600 [(a, lo #[] 0)] (kF (L1_40 p q r t u a) k)
theorem L2p_40 : runP 600 [(a, lo #[] 0)] (kF (L1_40 p q r t u a) k) = (a = a ∧ True) := by kernel_rfl
theorem L2h_40 : headN (L2_40 p q r t u a k) = 8 := by kernel_rfl
theorem L2a_40 : aU (L2_40 p q r t u a k) = a := by kernel_rfl
theorem L2f_40 : fU (L2_40 p q r t u a k) (lo #[] 0) = lo #[.bytes #[40] k] 1 := by kernel_rfl
abbrev L3_40 := runT 600 [(a, lo #[.bytes #[40] k] 1)] (kU (L2_40 p q r t u a k))
theorem L3p_40 : runP 600 [(a, lo #[.bytes #[40] k] 1)] (kU (L2_40 p q r t u a k)) = (a = a ∧ True) := by kernel_rfl
theorem L3h_40 : headN (L3_40 p q r t u a k) = 6 := by kernel_rfl
abbrev L4_40 := runT 600 [(a, lo #[.bytes #[40] k] 1)] (kF (L3_40 p q r t u a k) j)
theorem L4p_40 : runP 600 [(a, lo #[.bytes #[40] k] 1)] (kF (L3_40 p q r t u a k) j) = (a = a ∧ True) := by kernel_rfl
theorem L4e_40 : L4_40 p q r t u a k j = (call (.builtin "bytes.join") [.bytes #[] j, .ref a] >>= fun v => ret v) := by kernel_rfl
end
section
variable (p q r : Value) (t u : Tok) (a : Addr) (k j : Tok)
set_option maxHeartbeats 1000000 in
theorem sub0_41 : runT 300 [(120, patO p q r), (119, codeO)] («re.Pattern.sub» ⟨[.ref 120, .bytes #[] t, .bytes #[41] u], []⟩) = .alloc (lo #[] 0) (fun a => pure (.again (.builtin "re.Pattern.sub.loop" (loopArgs #[41] t u a)))) := by kernel_rfl
theorem sub0p_41 : runP 300 [(120, patO p q r), (119, codeO)] («re.Pattern.sub» ⟨[.ref 120, .bytes #[] t, .bytes #[41] u], []⟩) = (120 = 120 ∧ 119 = 119 ∧ True) := by kernel_rfl
abbrev L1_41 := runT 600 [(120, patO p q r), (119, codeO)] («re.Pattern.sub.loop» (loopArgs #[41] t u a))
theorem L1p_41 : runP 600 [(120, patO p q r), (119, codeO)] («re.Pattern.sub.loop» (loopArgs #[41] t u a)) = (120 = 120 ∧ 119 = 119 ∧ True) := by kernel_rfl
theorem L1h_41 : headN (L1_41 p q r t u a) = 6 := by kernel_rfl
abbrev L2_41 := runT 600 [(a, lo #[] 0)] (kF (L1_41 p q r t u a) k)
theorem L2p_41 : runP 600 [(a, lo #[] 0)] (kF (L1_41 p q r t u a) k) = (a = a ∧ True) := by kernel_rfl
theorem L2h_41 : headN (L2_41 p q r t u a k) = 8 := by kernel_rfl
theorem L2a_41 : aU (L2_41 p q r t u a k) = a := by kernel_rfl
theorem L2f_41 : fU (L2_41 p q r t u a k) (lo #[] 0) = lo #[.bytes #[41] k] 1 := by kernel_rfl
abbrev L3_41 := runT 600 [(a, lo #[.bytes #[41] k] 1)] (kU (L2_41 p q r t u a k))
theorem L3p_41 : runP 600 [(a, lo #[.bytes #[41] k] 1)] (kU (L2_41 p q r t u a k)) = (a = a ∧ True) := by kernel_rfl
theorem L3h_41 : headN (L3_41 p q r t u a k) = 6 := by kernel_rfl
abbrev L4_41 := runT 600 [(a, lo #[.bytes #[41] k] 1)] (kF (L3_41 p q r t u a k) j)
theorem L4p_41 : runP 600 [(a, lo #[.bytes #[41] k] 1)] (kF (L3_41 p q r t u a k) j) = (a = a ∧ True) := by kernel_rfl
theorem L4e_41 : L4_41 p q r t u a k j = (call (.builtin "bytes.join") [.bytes #[] j, .ref a] >>= fun v => ret v) := by kernel_rfl
end
section
variable (x : UInt8) (k j : Tok) (a : Addr)
theorem join_t : runT 600 [(a, lo #[.bytes #[x] k] 1), (a, lo #[.bytes #[x] k] 1)] («bytes.join» ⟨[.bytes #[] j, .ref a], []⟩) = pure (.done (.ret (.bytes #[x] k))) := by kernel_rfl
theorem join_p : runP 600 [(a, lo #[.bytes #[x] k] 1), (a, lo #[.bytes #[x] k] 1)] («bytes.join» ⟨[.bytes #[] j, .ref a], []⟩) = (a = a ∧ a = a ∧ True) := by kernel_rfl
end
end Mine

namespace Mine
open Builtin
section
variable {prog : Program} {w : World} {A : Around} {E : Value → Shared → Prop} {s : Shared} {Q : Value → Shared → Prop}
theorem tree_eq {α : Type} {M : Model} {t t' : Sem α} {Q : α → Shared → Prop} (e : t = t') (h : wpAny M A t' Q E s) : wpAny M A t Q E s := e ▸ h
theorem join_call {x : UInt8} {k j : Tok} {a : Addr} (ha : s.heap.get? a = some (lo #[.bytes #[x] k] 1)) (h : Q (.bytes #[x] k) s) :
    wpAny (model prog w) A (call (.builtin "bytes.join") [.bytes #[] j, .ref a]) Q E s := by
  refine wpAny_call_entry slot_bytes_join (typeIs_bytes _ _ _) entry_bytes_join ?_ (args_bytes_join _ _)
  refine run_ok 600 [(a, lo #[.bytes #[x] k] 1), (a, lo #[.bytes #[x] k] 1)] _ ?_ (by rw [join_p]; exact ⟨rfl, rfl, trivial⟩) ?_
  · intro p hp
    simp only [List.mem_cons, List.not_mem_nil, or_false, or_self] at hp
    subst hp
    exact ha
  · rw [join_t]
    exact wpAny_pure ⟨_, rfl, h⟩
theorem heap_pu {h : Heap} {o : Obj} {f : Obj → Obj} : ∀ b x, h.get? b = some x → ((h.push o).update h.objs.size f).get? b = some x := fun b x e => by
  have hs : Heap.SameBut h.objs.size (h.push o) ((h.push o).update h.objs.size f) := Heap.SameBut.update ..
  exact (hs.2 b (Nat.ne_of_lt (Heap.lt_size e))).trans (Heap.get?_push_of_some _ e)
set_option maxHeartbeats 4000000 in
theorem sub_call {x : UInt8} (hx : x = 40 ∨ x = 41) {p q r : Value} {t u : Tok} (h120 : s.heap.get? 120 = some (patO p q r)) (h119 : s.heap.get? 119 = some codeO)
    (hQ : ∀ h' t' tk', (∀ b o, s.heap.get? b = some o → h'.get? b = some o) → Q (.bytes #[x] t') { s with heap := h', toks := tk' }) :
    wpAny (model prog w) A (call (.builtin "re.Pattern.sub") [.ref 120, .bytes #[] t, .bytes #[x] u]) Q E s := by
  have hT : s.TypeIs (.ref 120) "re.Pattern" := ⟨_, h120, rfl⟩
  have two : ∀ (s : Shared), s.heap.get? 120 = some (patO p q r) → s.heap.get? 119 = some codeO → ∀ b ∈ ([(120, patO p q r), (119, codeO)] : List (Addr × Obj)), s.heap.get? b.1 = some b.2 := fun s a b c hc => by
    simp only [List.mem_cons, List.not_mem_nil, or_false] at hc
    rcases hc with rfl | rfl
    · exact a
    · exact b
  have one : ∀ (s : Shared) (a : Addr) (o : Obj), s.heap.get? a = some o → ∀ b ∈ ([(a, o)] : List (Addr × Obj)), s.heap.get? b.1 = some b.2 := fun s a o h c hc => by
    simp only [List.mem_cons, List.not_mem_nil, or_false] at hc
    subst hc
    exact h
  refine wpAny_call (codeAny_call_builtin slot_re_Pattern_sub.plain entry_re_Pattern_sub (slot_re_Pattern_sub.check _ _ _ _ _ _ _ _ hT (args_re_Pattern_sub _ _ _) ?_))
  rcases hx with rfl | rfl
  · refine run_ok 300 _ _ (two s h120 h119) (by rw [sub0p_40]; exact ⟨rfl, rfl, trivial⟩) ?_
    rw [sub0_40]
    refine wpAny_bind (m := alloc _) (f := fun a => (pure (Fin.again (.builtin "re.Pattern.sub.loop" (loopArgs #[40] t u a))) : Sem Fin)) (wpAny_alloc (wpAny_pure (And.intro (plainId_quiet (by decide +kernel) _) ?_)))
    refine codeAny_builtin entry_loop ?_
    have g1 : (s.heap.push (lo #[] 0)).get? s.heap.objs.size = some (lo #[] 0) := Heap.get?_push_size _ rfl
    refine run_ok 600 _ _ (two _ (Heap.get?_push_of_some _ h120) (Heap.get?_push_of_some _ h119)) (by rw [L1p_40]; exact ⟨rfl, rfl, trivial⟩) ?_
    refine go_fresh (L1h_40 ..) ?_
    refine run_ok 600 _ _ (one _ _ _ g1) (by rw [L2p_40]; exact ⟨rfl, trivial⟩) ?_
    refine go_update (L2h_40 ..) (L2a_40 ..) g1 ?_
    have g2 := Heap.get?_update_self (fU (L2_40 p q r t u s.heap.objs.size s.toks)) g1 (by rw [L2f_40]; rfl)
    rw [L2f_40] at g2
    refine run_ok 600 _ _ (one _ _ _ g2) (by rw [L3p_40]; exact ⟨rfl, trivial⟩) ?_
    refine go_fresh (L3h_40 ..) ?_
    refine run_ok 600 _ _ (one _ _ _ g2) (by rw [L4p_40]; exact ⟨rfl, trivial⟩) ?_
    refine tree_eq (L4e_40 ..) ?_
    exact wpAny_bind (join_call g2 (wpAny_pure (hQ _ _ _ heap_pu)))
  · refine run_ok 300 _ _ (two s h120 h119) (by rw [sub0p_41]; exact ⟨rfl, rfl, trivial⟩) ?_
    rw [sub0_41]
    refine wpAny_bind (m := alloc _) (f := fun a => (pure (Fin.again (.builtin "re.Pattern.sub.loop" (loopArgs #[41] t u a))) : Sem Fin)) (wpAny_alloc (wpAny_pure (And.intro (plainId_quiet (by decide +kernel) _) ?_)))
    refine codeAny_builtin entry_loop ?_
    have g1 : (s.heap.push (lo #[] 0)).get? s.heap.objs.size = some (lo #[] 0) := Heap.get?_push_size _ rfl
    refine run_ok 600 _ _ (two _ (Heap.get?_push_of_some _ h120) (Heap.get?_push_of_some _ h119)) (by rw [L1p_41]; exact ⟨rfl, rfl, trivial⟩) ?_
    refine go_fresh (L1h_41 ..) ?_
    refine run_ok 600 _ _ (one _ _ _ g1) (by rw [L2p_41]; exact ⟨rfl, trivial⟩) ?_
    refine go_update (L2h_41 ..) (L2a_41 ..) g1 ?_
    have g2 := Heap.get?_update_self (fU (L2_41 p q r t u s.heap.objs.size s.toks)) g1 (by rw [L2f_41]; rfl)
    rw [L2f_41] at g2
    refine run_ok 600 _ _ (one _ _ _ g2) (by rw [L3p_41]; exact ⟨rfl, trivial⟩) ?_
    refine go_fresh (L3h_41 ..) ?_
    refine run_ok 600 _ _ (one _ _ _ g2) (by rw [L4p_41]; exact ⟨rfl, trivial⟩) ?_
    refine tree_eq (L4e_41 ..) ?_
    exact wpAny_bind (join_call g2 (wpAny_pure (hQ _ _ _ heap_pu)))
end
end Mine

namespace Mine
theorem fill_d : PySem.Challenge.rw_xo0015_01 = PySem.Challenge.rw_xo0015_01 ∧ hd.heap_39 = hd.heap_39 := by
  k_fill
  exact ⟨rfl, rfl⟩
local macro_rules | `(tactic| k_room) => `(tactic| ktr_room)
section
variable (w : World) (mean : ExcName → Option Value) (mg mb : Str → Option Value) (news : List (Addr × Obj))
theorem pat_at {g h : Heap} {L : Addr} {m : Str → Option Value} (F : Fr g L h m) (X : (hd.heap_39 w.params).In g) : ∃ p q r, h.get? 120 = some (patO p q r) ∧ h.get? 119 = some codeO :=
  ⟨.bytes #[34, 40, 63, 58, 91, 94, 34, 92, 92, 93, 124, 92, 92, 46, 41, 42, 43, 34] 392, .int 0 433, .none, F.keep _ _ (X 120 _ (by with_unfolding_all rfl)), F.keep _ _ (X 119 _ (by with_unfolding_all rfl))⟩
theorem getm_pat {g : Heap} {L : Addr} {m : Str → Option Value} {M : Model} {A : Around} {E : Value → Shared → Prop} {s : Shared} {pl : Sem Bool} {Q : Value × List Value → Shared → Prop} (F : Fr g L s.heap m) (X : (hd.heap_39 w.params).In g)
   (h : Q (.builtin "re.Pattern.sub", [.ref 120]) s) : wpAny M A (getMethod (.ref 120) (Str.ofString "sub") pl) Q E s := by
  obtain ⟨p, q, r, h1, h2⟩ := pat_at w F X
  exact getMethod_builtin ⟨_, h1, rfl⟩ plainAttrs_pat slot_re_Pattern_sub type_re_Pattern_sub (fun a e => by cases e; exact ⟨_, h1, rfl⟩) h
theorem getm_count {M : Model} {A : Around} {E : Value → Shared → Prop} {s : Shared} {b : Array UInt8} {t : Tok} {pl : Sem Bool} {Q : Value × List Value → Shared → Prop}
   (h : Q (.builtin "bytes.count", [.bytes b t]) s) : wpAny M A (getMethod (.bytes b t) (Str.ofString "count") pl) Q E s :=
  getMethod_builtin (typeIs_bytes _ _ _) FB.plainAttrs_bytes slot_bytes_count type_bytes_count (fun _ e => nomatch e) h
theorem call_sub {prog : Program} {g : Heap} {L : Addr} {m : Str → Option Value} {A : Around} {E : Value → Shared → Prop} {s : Shared} {Q : Value → Shared → Prop} {x : UInt8} {t u : Tok} (hx : x = 40 ∨ x = 41) (F : Fr g L s.heap m) (X : (hd.heap_39 w.params).In g) (N : News g L s.heap news)
   (h : ∀ h' t' tk', Fr g L h' m → News g L h' news → Q (.bytes #[x] t') { s with heap := h', toks := tk' }) : wpAny (model prog w) A (call (.builtin "re.Pattern.sub") [.ref 120, .bytes #[] t, .bytes #[x] u]) Q E s := by
  obtain ⟨p, q, r, h1, h2⟩ := pat_at w F X
  exact sub_call hx h1 h2 fun h' t' tk' hk => h h' t' tk' (F.keeps hk) (News.keepsAll N hk)
open Builtin in
theorem count_same (x : UInt8) (hx : x = 40 ∨ x = 41) (y : UInt8) (hy : y = 40 ∨ y = 41) (t u : Tok) : «bytes.count» ⟨[.bytes #[x] t, .bytes #[y] u], []⟩ = retInt (if x = y then 1 else 0) := by
  rcases hx with rfl | rfl <;> rcases hy with rfl | rfl <;> kernel_rfl
theorem call_count {prog : Program} {A : Around} {E : Value → Shared → Prop} {s : Shared} {Q : Value → Shared → Prop} {x y : UInt8} {t u : Tok} (hx : x = 40 ∨ x = 41) (hy : y = 40 ∨ y = 41)
   (h : ∀ t' tk', Q (.int (if x = y then 1 else 0) t') { s with toks := tk' }) : wpAny (model prog w) A (call (.builtin "bytes.count") [.bytes #[x] t, .bytes #[y] u]) Q E s := by
  refine wpAny_call_entry slot_bytes_count (typeIs_bytes _ _ _) entry_bytes_count ?_ (args_bytes_count _ _)
  rw [count_same x hx y hy]
  exact wpAny_bind (wpAny_mkInt (wpAny_pure ⟨_, rfl, h _ _⟩))
set_option maxHeartbeats 4000000 in
theorem pd_spec (x : UInt8) (hx : x = 40 ∨ x = 41) (d : Int) (t u : Tok) : Spec w mean mg mb 128 10 100 news [.bytes #[x] t, .int d u] (RetV fun t => .int (d + (if x = 40 then 1 else 0) - (if x = 41 then 1 else 0)) t) := by
  dsimp only [Spec, RetV]
  intros
  rename_i hret
  k_with_none
  k_with "getMethod ref" => ((with_reducible show wpAny _ _ (getMethod (Value.ref 120) _ _) _ _ _); refine getm_pat w (by assumption) (by assumption) ?_)
  k_with "call builtin:re.Pattern.sub" => (refine call_sub w news hx (by assumption) (by assumption) (by assumption) ?_; intro h5 t5 tk5 F5 N5)
  k_with "getMethod bytes" => (refine getm_count ?_)
  k_with "call builtin:bytes.count" => (refine call_count w hx (by simp) ?_; intro t5 tk5)
  refine wpAny_call ?_
  k_dflt (refine' code_def ?k1 ?k2 ?k3 ?k4 ?k5 ?kA ?kF ?kK ?k6 ?k7 ?k8 ?k9 ?kB ?_ ?c2 ?c3 ?c4 ?c5; (case kA => exact rfl); (case kF => exact rfl); (case kK => assumption); (case k1 => k_asm); (case k2 => k_asm); (case k3 => k_asm); (case k4 => k_asm); (case k5 => k_asm); (case k6 => k_is); (case k7 => k_is); (case k8 => ktr_room); (case k9 => first | exact BindsTo.of_eq rfl | exact binds_K (by k_in) rfl (by k_is) rfl rfl rfl); (case c5 => decide); (case kB => exact locs rfl); (case c2 => exact rfl); (case c3 => exact rfl); (case c4 => exact rfl); k_whole; intro g' L' h' FG' F' N' B' X' T'; (try dsimp only); (try k_lift B'); (try k_fold))
  k_steps
  all_goals exact hret _ _ _ (by k_asm) (by k_asm)
end
end Mine

namespace Mine
theorem fill_e : PySem.Challenge.rw_xo0015_01 = PySem.Challenge.rw_xo0015_01 ∧ hd.heap_39 = hd.heap_39 := by
  k_fill
  exact ⟨rfl, rfl⟩
local macro_rules | `(tactic| k_room) => `(tactic| ktr_room)
local macro_rules | `(tactic| walk_at "exec For Name Call cons nil") => `(tactic| (k_here; (rename Fr _ _ _ _ => lF'); (with_unfolding_all refine' For_invVF lF' ?k1 ?k2 ?_; (case k1 => exact rfl); (case k2 => exact rfl); k_whole)))
local macro_rules | `(tactic| walk_at "pyIter ref") => `(tactic| k_extra "pyIter ref")
section
variable (w : World) (mean : ExcName → Option Value) (mg mb : Str → Option Value) (news : List (Addr × Obj))
abbrev RetM (M : List (List Int)) (h₀ : Heap) (L : Addr) (m : Str → Option Value) (news : List (Addr × Obj)) (s : Shared) (Q : Value → Shared → Prop) : Prop :=
  ∀ (a : Addr) (tl : List (Addr × Obj)) (h' : Heap) (tk' : Nat), Fr h₀ L h' m → News h₀ L h' (tl ++ news) → MatIn tl a M → Q (.ref a) { s with heap := h', toks := tk' }
set_option maxHeartbeats 1500000 in
theorem ways_spec (p : Nat) (t : Tok) (h1 : 1 ≤ p) (h2 : p ≤ 20) : Spec w mean mg mb 149 10 100 news [.int (p : Int) t] (RetM (matW p (p + 1))) := by
  dsimp only [Spec, RetM]
  intros
  rename_i hret
  k_with_none
  k_with "pyIter ref" => ((k_of "left" => k_dflt ((rename Fr _ _ _ _ => lF'); (rename News _ _ _ _ => lN'); refine' ways_loop ?a1 ?a2 h2 ?aF ?aN ?a3 ?a4 ?a5 ?a6; (case aF => exact lF'); (case aN => exact lN'); (case a1 => rfl); (case a2 => assumption); (case a3 => assumption); (case a4 => assumption); (all_goals (clear lF' lN')); (case' a5 => (intro objs n pre k t u h tk own hk hlt hrows hne hoff F8 N8)); (case' a6 => (intro objs n u h tk hrows F8 N8)); (all_goals ((try dsimp only); (try k_fold))))))
  k_with "pyIter ref" => ((k_of "depth" => k_dflt ((rename Fr _ _ _ _ => lF'); (rename News _ _ _ _ => lN'); refine' row_loop (rowW p pre.length) ?d1 ?d2 h2 ?dF ?dN l5 ?d5 ?d6; (case dF => exact lF'); (case dN => exact lN'); (case d1 => rfl); (case d2 => assumption); (all_goals (clear lF' lN')); (case' d5 => (intro vs1 n1 pre1 k1 t1 u1 hh1 tk1 own1 hk1 hlt1 hi1 hne1 F7 N7)); (case' d6 => (intro vs2 n2 u2 hh2 tk2 hv F6 N6)); (all_goals ((try dsimp only); (try k_fold))))))
  k_with "newList" => ((have hi9 := hints; k_dflt (refine' newList_K ?b1 ?b2 ?b3; (case b1 => k_asm); (case b2 => k_asm)); intro ra h5 F5 N5 l5))
  k_with "subscriptTail" => ((have hi9 := hi1; k_dflt (refine' item_int (ns := rowW p pre.length) (by k_asm) (List.mem_cons_of_mem _ (List.mem_append_left _ hmem)) hints (by omega) (by omega) (by rw [rowW_length]; omega) ?_); intro t9))
  k_with "subscriptTail" => (((fail_if_success (have hi9 := hints)); k_dflt (refine' item_row (M := matW p (pre.length + 1)) (row := rowW p pre.length) N8 ⟨objs, n, .head _, fun q hq => .tail _ (List.mem_append_left _ hq), hrows⟩ ?_ ?_ ?_ ?_; (focus omega); (focus omega); (focus (rw [show k.toNat = pre.length by omega]; exact matW_get (by omega)))); intro r vs0 n0 hmem hints))
  k_with "call builtin:list.append" => ((have hi9 := hi1; k_dflt (refine' append_K (by k_asm) (by k_asm) (Upd.head hne1) ?_ (by rw [List.size_toArray, hi1.length, List.length_map, sizeLine_eq]; omega)); intro h4 F4 N4))
  k_with "call builtin:list.append" => ((have hi9 := hv; k_dflt (refine' append_K ?g1 ?g2 (Upd.tail ?g4 (Upd.head ?g5)) ?_ ?g3; (case g1 => k_asm); (case g2 => k_asm); (case g4 => exact Nat.ne_of_gt (l5 _ (.head _))); (case g5 => exact hne); (case g3 => (rw [refsOf, List.size_toArray, List.length_map, hrows.length, matW, List.length_map, List.length_range, sizeLine_eq]; omega))); intro h4 F4 N4))
  refine wpAny_call ?_
  k_dflt cell_enter
  k_steps
  · exact hret _ ((_, listOf (refsOf objs) n) :: objs) _ _ (by k_asm) (by rename News _ _ _ _ => nE'; exact nE') ⟨objs, n, .head _, fun q hq => .tail _ hq, hrows⟩
  · refine ways_end (by assumption) N4 l5 hoff hrows hne hv ?_
    intro z g1 g2; simp only [wSt, List.contains_cons, List.contains_nil, Bool.or_false, Bool.or_eq_false_iff, beq_eq_false_iff_ne, ne_eq] at g1 g2; first | (simp [g1, g2]; done)
  all_goals (refine row_end (by assumption) (by rename News _ _ _ _ => nE'; exact nE') hi1 ?_ ?_)
  all_goals first
    | (unfold cellF; first | rw [if_pos (by omega), if_pos (by omega)] | rw [if_pos (by omega), if_neg (by omega)] | rw [if_neg (by omega), if_pos (by omega)] | rw [if_neg (by omega), if_neg (by omega)])
    | (intro z g1 g2; simp only [rSt, List.contains_cons, List.contains_nil, Bool.or_false, Bool.or_eq_false_iff, beq_eq_false_iff_ne, ne_eq] at g1 g2; first | (simp [g1, g2]; done))
end
end Mine

namespace Mine
theorem fill_f : PySem.Challenge.rw_xo0015_01 = PySem.Challenge.rw_xo0015_01 ∧ hd.heap_39 = hd.heap_39 := by
  k_fill
  exact ⟨rfl, rfl⟩
local macro_rules | `(tactic| k_room) => `(tactic| ktr_room)
local macro_rules | `(tactic| walk_at "exec For Name Call cons nil") => `(tactic| (k_here; (rename Fr _ _ _ _ => lF'); (with_unfolding_all refine' For_invVF lF' ?k1 ?k2 ?_; (case k1 => exact rfl); (case k2 => exact rfl); k_whole)))
local macro_rules | `(tactic| walk_at "pyIter ref") => `(tactic| k_extra "pyIter ref")
local macro_rules | `(tactic| walk_at "InvEndN") => `(tactic| k_extra "InvEndN")
section
variable (w : World) (mean : ExcName → Option Value) (mg mb : Str → Option Value) (news : List (Addr × Obj))
def stepRow (p : Nat) (c : Int × Int × Int) (k : Int) : Int × Int × Int :=
  let shut := if c.2.1 > 0 then (rowW p ((p : Int) - 1 - k).toNat).getD (c.2.1 - 1).toNat 0 else 0
  if c.1 < shut then (c.1, c.2.1 - 1, 2 * c.2.2) else (c.1 - shut, c.2.1 + 1, 2 * c.2.2 + 1)
def rwP (p : Nat) (x : Int) (pre : List Int) (a d m : Int) : Prop := (a, d, m) = pre.foldl (stepRow p) (x, 0, 0) ∧ 0 ≤ d ∧ d ≤ pre.length
theorem rw_start {p : Nat} {x : Int} : rwP p x [] x 0 0 := ⟨rfl, by decide, by decide⟩
theorem rw_shut {p : Nat} {x a d m k : Int} {pre : List Int} (h : rwP p x pre a d m) (hd : d > 0) (hlt : a < (rowW p ((p : Int) - 1 - k).toNat).getD (d - 1).toNat 0) : rwP p x (pre ++ [k]) a (d - 1) (2 * m) := by
  obtain ⟨h1, h2, h3⟩ := h
  refine ⟨?_, by omega, by rw [List.length_append, show ([k] : List Int).length = 1 from rfl]; omega⟩
  rw [List.foldl_append, ← h1]
  simp only [List.foldl_cons, List.foldl_nil, stepRow, if_pos hd, if_pos hlt]
theorem rw_open {p : Nat} {x a d m k : Int} {pre : List Int} (h : rwP p x pre a d m) (hd : d > 0) (hlt : ¬ a < (rowW p ((p : Int) - 1 - k).toNat).getD (d - 1).toNat 0) : rwP p x (pre ++ [k]) (a - (rowW p ((p : Int) - 1 - k).toNat).getD (d - 1).toNat 0) (d + 1) (2 * m + 1) := by
  obtain ⟨h1, h2, h3⟩ := h
  refine ⟨?_, by omega, by rw [List.length_append, show ([k] : List Int).length = 1 from rfl]; omega⟩
  rw [List.foldl_append, ← h1]
  simp only [List.foldl_cons, List.foldl_nil, stepRow, if_pos hd, if_neg hlt]
theorem rw_low {p : Nat} {x a d m k : Int} {pre : List Int} (h : rwP p x pre a d m) (hd : ¬ d > 0) (hlt : ¬ a < 0) : rwP p x (pre ++ [k]) (a - 0) (d + 1) (2 * m + 1) := by
  obtain ⟨h1, h2, h3⟩ := h
  refine ⟨?_, by omega, by rw [List.length_append, show ([k] : List Int).length = 1 from rfl]; omega⟩
  rw [List.foldl_append, ← h1]
  simp only [List.foldl_cons, List.foldl_nil, stepRow, if_neg hd, if_neg hlt]
theorem rw_b {p : Nat} {x a d m : Int} {pre : List Int} (h : rwP p x pre a d m) : 0 ≤ d ∧ d ≤ pre.length := h.2
theorem rw_done {p : Nat} {x a d m : Int} {pre : List Int} (h : rwP p x pre a d m) : m = (pre.foldl (stepRow p) (x, 0, 0)).2.2 := congrArg (fun c => c.2.2) h.1
theorem rw_bad {p : Nat} {x a d m : Int} {pre : List Int} (hx : 0 ≤ x) (h : rwP p x pre a d m) : 0 ≤ a := by
  have key : ∀ (pre : List Int) (c : Int × Int × Int), 0 ≤ c.1 → 0 ≤ (pre.foldl (stepRow p) c).1 := by
    intro pre
    induction pre with
    | nil => intro c h; exact h
    | cons k r ih =>
      intro c h
      refine ih _ ?_
      unfold stepRow
      dsimp only
      by_cases h1 : c.1 < (if c.2.1 > 0 then (rowW p ((p : Int) - 1 - k).toNat).getD (c.2.1 - 1).toNat 0 else 0)
      · rw [if_pos h1]; exact h
      · rw [if_neg h1]; show 0 ≤ c.1 - _; omega
  have := key pre (x, 0, 0) hx
  rw [← h.1] at this
  exact this
set_option maxHeartbeats 1500000 in
theorem row_spec (p : Nat) (x : Int) (wa : Addr) (t u : Tok) (h1 : 1 ≤ p) (h2 : p ≤ 20) (hx : 0 ≤ x) (hM : MatIn news wa (matW p (p + 1))) : Spec w mean mg mb 156 10 100 news [.int x t, .int (p : Int) u, .ref wa] (RetV fun t => .int ((rangeKs 0 p).foldl (stepRow p) (x, 0, 0)).2.2 t) := by
  dsimp only [Spec, RetV]
  intros
  rename_i hret
  k_with_none
  k_with "pyIter ref" => ((k_of "k" => k_dflt ((rename Fr _ _ _ _ => lF'); (rename News _ _ _ _ => lN'); refine' kst_range (σ := Int × Tok × Int × Tok × Int × Tok) (n := p) (fun _ => news) (fun c => [("place", .int c.1 c.2.1), ("depth", .int c.2.2.1 c.2.2.2.1), ("mask", .int c.2.2.2.2.1 c.2.2.2.2.2)]) (fun _ => True) ["shut"] (fun pre c => rwP p x pre c.1 c.2.2.1 c.2.2.2.2.1) (_, _, _, _, _, _) ?a1 ?a2 ?a3 (rs0 p) ?aF ?aN trivial ?a4 ?a5 ?a6 ?a7; (case aF => exact lF'); (case aN => exact lN'); (case a1 => rfl); (case a2 => assumption); (case a3 => exact small_one (by decide) (by decide) (by omega) (by omega)); (case a4 => kst_all); (case a5 => exact rw_start); (all_goals (clear lF' lN')); (case' a6 => (intro c pre k t u h tk own hk hlt hoff hf hp F8 N8; have hb1 := rw_b hp; have ha0 := rw_bad hx hp)); (case' a7 => (intro c u h tk hf hp F8 N8)); (all_goals ((try dsimp only [kstB] at F8 ⊢); (try k_fold))))))
  k_with "subscriptTail" => ((have hi9 := hints; k_dflt (refine' item_int (ns := rowW p ((p : Int) - 1 - k).toNat) (by k_asm) hmem hints (by omega) (by omega) (by rw [rowW_length]; omega) ?_); intro t9))
  k_with "subscriptTail" => (((fail_if_success (have hi9 := hints)); k_dflt (refine' item_row (M := matW p (p + 1)) (row := rowW p ((p : Int) - 1 - k).toNat) N8 (hM.mono fun q hq => List.mem_append_left _ hq) (by omega) (by omega) (matW_get (by omega)) ?_); intro r vs0 n0 hmem hints))
  k_with "InvEndN" => ((k_dflt ((rename News _ _ _ _ => nE'); refine' kst_end (_, _, _, _, _, _) (by assumption) nE' (fun q h => List.mem_append_left _ h) (fun q h => List.mem_append_right _ h) rfl trivial ?_ ?_ ?_; (all_goals try kst_all); (all_goals first | (intro z g1 g2 g3; have e1 := g2 _ (.head _); have e2 := g2 _ (.tail _ (.head _)); have e3 := g2 _ (.tail _ (.tail _ (.head _))); dsimp only at e1 e2 e3; simp only [List.contains_cons, List.contains_nil, Bool.or_false, beq_eq_false_iff_ne, ne_eq] at g1 g3 e1 e2 e3; simp [g1, g3, e1, e2, e3]; done) | exact rw_shut hp (by omega) (by first | assumption | omega) | exact rw_open hp (by omega) (by first | assumption | exact Int.not_lt.mpr (by assumption) | omega) | exact rw_low hp (by omega) (by omega)))))
  refine wpAny_call ?_
  k_dflt cell_enter
  k_steps
  rw [rw_done hp]
  exact hret _ _ _ (by k_asm) (by k_asm)
end
end Mine

namespace Mine
theorem fill_g : PySem.Challenge.rw_xo0015_01 = PySem.Challenge.rw_xo0015_01 ∧ hd.heap_39 = hd.heap_39 := by
  k_fill
  exact ⟨rfl, rfl⟩
local macro_rules | `(tactic| k_room) => `(tactic| ktr_room)
local macro_rules | `(tactic| walk_at "exec For Name Call cons nil") => `(tactic| (k_here; (rename Fr _ _ _ _ => lF'); (with_unfolding_all refine' For_invVF lF' ?k1 ?k2 ?_; (case k1 => exact rfl); (case k2 => exact rfl); k_whole)))
local macro_rules | `(tactic| walk_at "pyIter ref") => `(tactic| k_extra "pyIter ref")
local macro_rules | `(tactic| walk_at "InvEndN") => `(tactic| k_extra "InvEndN")
section
variable (w : World) (mean : ExcName → Option Value) (mg mb : Str → Option Value) (news : List (Addr × Obj))

def chB (b : Bool) : Str := if b then Str.ofString "(" else Str.ofString ")"
def txtB (bs : List Bool) : Str := ⟨(bs.map fun b => if b then 40 else 41).toArray⟩
theorem txtB_len (bs : List Bool) : (txtB bs).length = bs.length := by simp [txtB, Str.length]
theorem ch1 : Str.ofString "(" = ⟨#[40]⟩ := by decide +kernel
theorem ch2 : Str.ofString ")" = ⟨#[41]⟩ := by decide +kernel
theorem item_txt (bs : List Bool) (k : Int) (h0 : 0 ≤ k) (h : k < bs.length) : Txt.item (txtB bs) k = chB (bs.getD k.toNat false) := by
  have hn : k.toNat < bs.length := by omega
  have e1 : seqIndex? k (txtB bs).length = some k.toNat := by
    rw [txtB_len]
    simp [seqIndex?, show ¬ k < 0 by omega, h0, h]
  have e2 : (txtB bs).cps[k.toNat]? = some (if bs[k.toNat] then 40 else 41) := by
    simp [txtB, hn]
  have e3 : bs.getD k.toNat false = bs[k.toNat] := by rw [List.getD_eq_getElem?_getD, List.getElem?_eq_getElem hn]; rfl
  unfold Txt.item Txt.charAt
  rw [e1]
  show (⟨#[((txtB bs).cps[k.toNat]?).getD 0]⟩ : Str) = _
  rw [e2, e3, chB, ch1, ch2]
  cases bs[k.toNat] <;> rfl
open Builtin in
theorem enc1 (t : Tok) : «str.encode» ⟨[.str (Str.ofString "(") t], []⟩ = (do let v ← mkBytes #[40]; ret v) := by kernel_rfl
open Builtin in
theorem enc2 (t : Tok) : «str.encode» ⟨[.str (Str.ofString ")") t], []⟩ = (do let v ← mkBytes #[41]; ret v) := by kernel_rfl
theorem getm_enc {M : Model} {A : Around} {E : Value → Shared → Prop} {s : Shared} {x : Str} {t : Tok} {pl : Sem Bool} {Q : Value × List Value → Shared → Prop}
   (h : Q (.builtin "str.encode", [.str x t]) s) : wpAny M A (getMethod (.str x t) (Str.ofString "encode") pl) Q E s :=
  getMethod_builtin (typeIs_str _ _ _) F.plainAttrs_str F.slot_str_encode F.type_str_encode (fun _ e => nomatch e) h
theorem call_enc1 {prog : Program} {A : Around} {E : Value → Shared → Prop} {s : Shared} {Q : Value → Shared → Prop} {t : Tok}
   (h : ∀ t' tk', Q (.bytes #[40] t') { s with toks := tk' }) : wpAny (model prog w) A (call (.builtin "str.encode") [.str (Str.ofString "(") t]) Q E s := by
  refine wpAny_call_entry F.slot_str_encode (typeIs_str _ _ _) F.entry_str_encode ?_ (F.args_str_encode_1 _)
  rw [enc1]
  exact wpAny_bind (wpAny_mkBytes (wpAny_pure ⟨_, rfl, h _ _⟩) (by decide))
theorem call_enc2 {prog : Program} {A : Around} {E : Value → Shared → Prop} {s : Shared} {Q : Value → Shared → Prop} {t : Tok}
   (h : ∀ t' tk', Q (.bytes #[41] t') { s with toks := tk' }) : wpAny (model prog w) A (call (.builtin "str.encode") [.str (Str.ofString ")") t]) Q E s := by
  refine wpAny_call_entry F.slot_str_encode (typeIs_str _ _ _) F.entry_str_encode ?_ (F.args_str_encode_1 _)
  rw [enc2]
  exact wpAny_bind (wpAny_mkBytes (wpAny_pure ⟨_, rfl, h _ _⟩) (by decide))
theorem pd40 (d : Int) (t u : Tok) : Spec w mean mg mb 128 10 100 news [.bytes #[40] t, .int d u] (RetV fun t => .int (d + 1) t) := by
  have h := pd_spec w mean mg mb news 40 (.inl rfl) d t u
  have e : d + (if (40 : UInt8) = 40 then 1 else 0) - (if (40 : UInt8) = 41 then 1 else 0) = d + 1 := by rw [if_pos rfl, if_neg (by decide)]; omega
  rw [e] at h; exact h
theorem pd41 (d : Int) (t u : Tok) : Spec w mean mg mb 128 10 100 news [.bytes #[41] t, .int d u] (RetV fun t => .int (d - 1) t) := by
  have h := pd_spec w mean mg mb news 41 (.inr rfl) d t u
  have e : d + (if (41 : UInt8) = 40 then 1 else 0) - (if (41 : UInt8) = 41 then 1 else 0) = d - 1 := by rw [if_neg (by decide), if_pos rfl]; omega
  rw [e] at h; exact h
def stepPl (p : Nat) (bs : List Bool) (c : Int × Int) (k : Int) : Int × Int :=
  (if bs.getD k.toNat false = true ∧ c.2 > 0 then c.1 + (rowW p ((p : Int) - 1 - k).toNat).getD (c.2 - 1).toNat 0 else c.1, if bs.getD k.toNat false = true then c.2 + 1 else c.2 - 1)
def plP (p : Nat) (bs : List Bool) (pre : List Int) (a d : Int) : Prop := (a, d) = pre.foldl (stepPl p bs) (0, 0) ∧ d ≤ pre.length
theorem pl_b {p : Nat} {bs : List Bool} {pre : List Int} {a d : Int} (h : plP p bs pre a d) : d ≤ pre.length := h.2
theorem pl_start {p : Nat} {bs : List Bool} : plP p bs [] 0 0 := ⟨rfl, by decide⟩
theorem pl_up {p : Nat} {bs : List Bool} {pre : List Int} {a d k : Int} (h : plP p bs pre a d) (hb : bs.getD k.toNat false = true) (hd : d > 0) : plP p bs (pre ++ [k]) (a + (rowW p ((p : Int) - 1 - k).toNat).getD (d - 1).toNat 0) (d + 1) := by
  obtain ⟨h1, h2⟩ := h
  refine ⟨?_, by rw [List.length_append, show ([k] : List Int).length = 1 from rfl]; omega⟩
  rw [List.foldl_append, ← h1]
  simp only [List.foldl_cons, List.foldl_nil, stepPl, hb, if_true, if_pos (And.intro trivial hd)]
theorem pl_lo {p : Nat} {bs : List Bool} {pre : List Int} {a d k : Int} (h : plP p bs pre a d) (hb : bs.getD k.toNat false = true) (hd : ¬ d > 0) : plP p bs (pre ++ [k]) a (d + 1) := by
  obtain ⟨h1, h2⟩ := h
  refine ⟨?_, by rw [List.length_append, show ([k] : List Int).length = 1 from rfl]; omega⟩
  rw [List.foldl_append, ← h1]
  simp only [List.foldl_cons, List.foldl_nil, stepPl, hb, if_true, if_neg (fun x : True ∧ d > 0 => hd x.2)]
theorem pl_dn {p : Nat} {bs : List Bool} {pre : List Int} {a d k : Int} (h : plP p bs pre a d) (hb : bs.getD k.toNat false = false) : plP p bs (pre ++ [k]) a (d - 1) := by
  obtain ⟨h1, h2⟩ := h
  refine ⟨?_, by rw [List.length_append, show ([k] : List Int).length = 1 from rfl]; omega⟩
  rw [List.foldl_append, ← h1]
  simp only [List.foldl_cons, List.foldl_nil, stepPl, hb, Bool.false_eq_true, if_false, if_neg (fun x : False ∧ d > 0 => x.1)]
theorem pl_done {p : Nat} {bs : List Bool} {pre : List Int} {a d : Int} (h : plP p bs pre a d) : a = (pre.foldl (stepPl p bs) (0, 0)).1 := congrArg (·.1) h.1
set_option maxHeartbeats 1500000 in
theorem place_spec (p : Nat) (bs : List Bool) (wa : Addr) (t : Tok) (h1 : 1 ≤ p) (h2 : p ≤ 20) (hb : bs.length = p) (hM : MatIn news wa (matW p (p + 1))) : Spec w mean mg mb 170 20 200 news [.str (txtB bs) t, .ref wa] (RetV fun t => .int ((rangeKs 0 p).foldl (stepPl p bs) (0, 0)).1 t) := by
  have hlen : (txtB bs).length = p := by rw [txtB_len, hb]
  dsimp only [Spec, RetV]
  intros
  rename_i hret
  k_with_none
  k_with "pyIter ref" => ((k_of "k" => k_dflt ((rename Fr _ _ _ _ => lF'); (rename News _ _ _ _ => lN'); refine' kst_range (σ := Int × Tok × Int × Tok) (n := p) (fun _ => news) (fun c => [("place", .int c.1 c.2.1), ("depth", .int c.2.2.1 c.2.2.2)]) (fun _ => True) [] (fun pre c => plP p bs pre c.1 c.2.2.1) (_, _, _, _) ?a1 ?a2 ?a3 ?a8 ?aF ?aN trivial ?a4 ?a5 ?a6 ?a7; (case aF => exact lF'); (case aN => exact lN'); (case a1 => rfl); (case a2 => assumption); (case a3 => (rw [hlen]; exact small_one (by decide) (by decide) (by omega) (by omega))); (case a8 => (rw [hlen]; exact rs0 p)); (case a4 => kst_all); (case a5 => exact pl_start); (all_goals (clear lF' lN')); (case' a6 => (intro c pre k t u h tk own hk hlt hoff hf hp F8 N8; have hd0 := pl_b hp; have hi := item_txt bs k (by omega) (by omega); rcases Bool.eq_false_or_eq_true (bs.getD k.toNat false) with hbk | hbk <;> (rw [hbk] at hi; simp only [chB, if_true, if_false, Bool.false_eq_true] at hi))); (case' a7 => (intro c u h tk hf hp F8 N8)); (all_goals ((try dsimp only [kstB] at F8 ⊢); (try k_fold))))))
  k_with "subscriptTail Name Name str int" => ((refine PyProof.Rows.item_str (fitsSsize_of (N := 9223372036854775808) (by omega) (by omega) (Int.le_refl _)) (by omega) (by omega) ?_; intro t7; rw [hi]))
  k_with "getMethod str" => ((refine getm_enc ?_))
  k_with "call builtin:str.encode" => ((first | (refine call_enc1 w ?_; intro t6 tk6) | (refine call_enc2 w ?_; intro t6 tk6)))
  k_with "call ref" => ((k_dflt (first | refine' pd40 w mean mg mb _ _ _ _ _ _ _ _ _ _ _ _ _ _ _ _ _ _ _ _ _ (by k_asm) (by k_asm) (by k_asm) (by k_asm) (by k_asm) (by exact rfl) (by ktr_room) (by ktr_units) ?_ | refine' pd41 w mean mg mb _ _ _ _ _ _ _ _ _ _ _ _ _ _ _ _ _ _ _ _ _ (by k_asm) (by k_asm) (by k_asm) (by k_asm) (by k_asm) (by exact rfl) (by ktr_room) (by ktr_units) ?_); intro t9 h9 tk9 F9 N9; (try dsimp only); (try k_fold)))
  k_with "subscriptTail" => ((have hi9 := hints; k_dflt (refine' item_int (ns := rowW p ((p : Int) - 1 - k).toNat) (by k_asm) hmem hints (by omega) (by omega) (by rw [rowW_length]; omega) ?_); intro t9))
  k_with "subscriptTail" => (((fail_if_success (have hi9 := hints)); k_dflt (refine' item_row (M := matW p (p + 1)) (row := rowW p ((p : Int) - 1 - k).toNat) N8 (hM.mono fun q hq => List.mem_append_left _ hq) (by omega) (by omega) (by rw [hlen]; exact matW_get (by omega)) ?_); intro r vs0 n0 hmem hints))
  k_with "InvEndN" => ((k_dflt ((rename News _ _ _ _ => nE'); refine' kst_end (_, _, _, _) (by assumption) nE' (fun q h => List.mem_append_left _ h) (fun q h => List.mem_append_right _ h) rfl trivial ?_ ?_ ?_; (all_goals try kst_all); (all_goals first | (intro z g1 g2 g3; have e1 := g2 _ (.head _); have e2 := g2 _ (.tail _ (.head _)); dsimp only at e1 e2; simp only [ne_eq] at g1 e1 e2; simp [g1, e1, e2]; done) | exact pl_up hp hbk (by omega) | exact pl_lo hp hbk (by omega) | exact pl_dn hp hbk))))
  refine wpAny_call ?_
  k_dflt cell_enter
  k_steps
  rw [pl_done hp]
  exact hret _ _ _ (by k_asm) (by k_asm)
end
end Mine

namespace Mine
section
variable {M : Model} {A : Around} {R : GenEnd} {Y : Protocol} {n : Nat} {s₀ : Shared} {c : Code} {fs : List Frame} {s : Shared} {env : Env}
  {K : Flow → Sem Fin} {H : Value → Sem Fin} {gd : Bool → Bool} {lv : List Value → List Value}

theorem seg_stmt {st : Stmt} (h : wpAny M (A.over c fs) (exec st env) (fun f s' => Seg M A R Y n s₀ c (K f) fs s') (fun x s' => Seg M A R Y n s₀ c (H x) fs s') s) :
    Seg M A R Y n s₀ c ((exec st env).wrap K H gd lv) fs s := seg_wrap h

theorem seg_If {test : Expr} {body orelse : List Stmt} {pos : Pos}
    (h : wpAny M (A.over c fs) (isTrue test env (eval test env)) (fun b s' => if b = true then Seg M A R Y n s₀ c ((execs body env).wrap K H gd lv) fs s' else Seg M A R Y n s₀ c ((execs orelse env).wrap K H gd lv) fs s')
      (fun x s' => Seg M A R Y n s₀ c (H x) fs s') s) :
    Seg M A R Y n s₀ c ((exec (.If test body orelse pos) env).wrap K H gd lv) fs s := by
  show Seg M A R Y n s₀ c (.at pos fun _ => ((isTrue test env (eval test env)) >>= fun b => if b = true then execs body env else execs orelse env).wrap K H gd lv) fs s
  refine seg_at (seg_bind_wrap (wpAny_mono h (fun b s' hb => ?_) fun _ _ e => e))
  cases b with
  | true => rw [if_pos rfl] at hb ⊢; exact hb
  | false => rw [if_neg Bool.false_ne_true] at hb ⊢; exact hb

theorem keep_wrap {α : Type} (l : List Value) (m : Sem α) (K : α → Sem Fin) (H : Value → Sem Fin) (gd lv) : (m.keep l).wrap K H gd lv = m.wrap K H gd (fun x => lv (l ++ x)) := by
  rw [Sem.keep_eq_wrap, Sem.wrap_wrap]; rfl

theorem seg_For {target iter : Expr} {body orelse : List Stmt} {pos : Pos}
    (h : wpAny M (A.over c fs) (eval iter env) (fun x s₁ => wpAny M (A.over c fs) (pyIter x) (fun it s₂ => ∀ (k : Result → Sem Fin) g l p, g = gd false → (∀ f, k (.ok f) = K f) → Seg M A R Y n s₀ (.forLoop target it body orelse env) (M.den (.forLoop target it body orelse env))
      (.ret k none g l c p [] :: fs) s₂) (fun x s' => Seg M A R Y n s₀ c (H x) fs s') s₁) (fun x s' => Seg M A R Y n s₀ c (H x) fs s') s)
    (hs : ∀ x, foldedSetIterable iter env x = pure x := by intro _; rfl) :
    Seg M A R Y n s₀ c ((exec (.For target iter body orelse pos) env).wrap K H gd lv) fs s := by
  rw [exec_For]
  refine seg_bind_wrap (wpAny_standAt ?_)
  refine seg_bind_wrap (wpAny_mono h (fun x s₁ h₁ => ?_) fun _ _ e => e)
  refine seg_bind_wrap (wpAny_of_eq (hs x) ?_)
  refine seg_bind_wrap (wpAny_standAt ?_)
  refine seg_bind_wrap (wpAny_holding (wpAny_mono h₁ (fun it s₂ h₂ => ?_) fun _ _ e => e))
  exact seg_call fun p => h₂ _ _ _ p rfl fun f => rfl
end

section
variable {prog : Program} {w : World} {A : Around} {R : GenEnd} {Y : Protocol} {n : Nat} {s₀ : Shared} {fs : List Frame} {s : Shared} {env : Env}

abbrev loopErr (env : Env) : Value → Sem Fin := fun e => (do noteFrame e env; theTreesLotGoes e : Sem Unit).wrap (fun _ => .raise e) .raise id id
abbrev loopK (target : Expr) (it : Value) (body orelse : List Stmt) (env : Env) : Flow → Sem Fin := fun f => match f with
  | .next | .cont => .pure (.again (.forLoop target it body orelse env))
  | .brk => .pure (.done .next)
  | .ret v => .pure (.done (.ret v))

theorem seg_forLoop {target : Expr} {it : Value} {body orelse : List Stmt}
    (h : wpAny (model prog w) (A.over (.forLoop target it body orelse env) fs) (pyNext it) (fun r s₁ => match r with
      | none => Seg (model prog w) A R Y n s₀ (.forLoop target it body orelse env) (.pure (.again (.block orelse env))) fs s₁
      | some v => wpAny (model prog w) (A.over (.forLoop target it body orelse env) fs) (letOwnedTupleGo target it v) (fun _ s₁' =>
          wpAny (model prog w) (A.over (.forLoop target it body orelse env) fs) (assign target env v) (fun _ s₂ =>
            Seg (model prog w) A R Y n s₀ (.forLoop target it body orelse env) ((execs body env).wrap (loopK target it body orelse env) (loopErr env) id id) fs s₂)
            (fun x s' => Seg (model prog w) A R Y n s₀ (.forLoop target it body orelse env) (loopErr env x) fs s') s₁')
            (fun x s' => Seg (model prog w) A R Y n s₀ (.forLoop target it body orelse env) (loopErr env x) fs s') s₁)
      (fun x s' => Seg (model prog w) A R Y n s₀ (.forLoop target it body orelse env) (loopErr env x) fs s') s) :
    Seg (model prog w) A R Y n s₀ (.forLoop target it body orelse env) ((model prog w).den (.forLoop target it body orelse env)) fs s := by
  show Seg _ A R Y n s₀ _ ((forTurn target it body orelse env).onRaise (fun x => do noteFrame x env; theTreesLotGoes x)) fs s
  simp only [forTurn]
  rw [Sem.onRaise_eq_wrap]
  have eE : ∀ e, (do noteFrame e env; theTreesLotGoes e : Sem Unit).bind (fun _ => (.raise e : Sem Fin)) = loopErr env e := fun e => by rw [Sem.bind_eq_wrap]
  refine seg_bind_wrap (wpAny_standAt ?_)
  refine seg_bind_wrap (wpAny_onRaise (wpAny_mono h (fun r s₁ h₁ => ?_) fun x s' h' => wpAny_standAt (by rw [eE]; exact h')))
  cases r with
  | none => exact h₁
  | some v =>
    refine seg_bind_wrap (wpAny_mono h₁ (fun _ s₁' h₁' => ?_) fun x s' h' => by rw [eE]; exact h')
    refine seg_bind_wrap (wpAny_mono h₁' (fun _ s₂ h₂ => ?_) fun x s' h' => by rw [eE]; exact h')
    rw [Sem.bind_eq_wrap', Sem.wrap_wrap]
    rw [Sem.wrap_congr (execs body env) _ _ (K' := loopK target it body orelse env) (H' := loopErr env) (fun f => by cases f <;> rfl) (fun e => by exact eE e)]
    exact h₂

theorem seg_blockNil {k : Result → Sem Fin} {hd : Option Value} {g : Bool} {l : List Value} {c₁ : Code} {p₁ : Pos} {kp}
    (h : Seg (model prog w) A R Y n s₀ c₁ (k (.ok .next)) fs s) :
    Seg (model prog w) A R Y n s₀ (.block [] env) ((model prog w).den (.block [] env)) (.ret k hd g l c₁ p₁ kp :: fs) s :=
  seg_leaf (.ok .next) h
end
end Mine

namespace Mine
theorem ne_low {b N0 e : Nat} (h1 : b < N0) (h2 : N0 ≤ e) : b ≠ e := by omega
structure EscEnv (genv : Env) : Prop where
  kind : genv.scope.kind = .function
  co : genv.scope.isCoroutine = false
  kpos : genv.kindOf "pos" = some .local
  kch : genv.kindOf "ch" = some .local
  kesc : genv.kindOf "escape" = some .local
  kaddr : genv.kindOf "addr" = some .local
  inter : interactive genv = false
theorem EscEnv.plain {genv : Env} (G : EscEnv genv) : (genv.scope.kind == .class || (genv.scope.kind == .module && genv.locals != genv.globals)) = false := by rw [G.kind]; rfl

abbrev Sin (N0 : Nat) (C : Addr) (s₀ s : Shared) : Prop := ∃ h tk, s = { s₀ with heap := h, toks := tk } ∧ ∀ b o, b < N0 → b ≠ C → s₀.heap.get? b = some o → h.get? b = some o
theorem Sin.refl (N0 : Nat) (C : Addr) (s : Shared) : Sin N0 C s s := ⟨s.heap, s.toks, rfl, fun _ _ _ _ e => e⟩
theorem Sin.step {N0 : Nat} {C : Addr} {s₀ s : Shared} (h : Sin N0 C s₀ s) {h' : Heap} {tk : Nat} (hk : ∀ b o, b < N0 → b ≠ C → s.heap.get? b = some o → h'.get? b = some o) : Sin N0 C s₀ { s with heap := h', toks := tk } := by
  obtain ⟨h₁, tk₁, rfl, hk₁⟩ := h
  exact ⟨h', tk, rfl, fun b o h1 h2 e => hk b o h1 h2 (hk₁ b o h1 h2 e)⟩

def escY (x : Str) (N0 : Nat) (C L : Addr) : Protocol := fun m s₀ v s kap => ∃ (T : Addr) (t u : Tok) (i c : Nat), v = .ref T ∧ i + 1 + m = x.cps.size ∧ x.cps[i]? = some c ∧ N0 ≤ T ∧ s.heap.IsTuple T #[.int i t, .str ⟨#[c]⟩ u] ∧ Sin N0 C s₀ s ∧
  ∀ s'' : Shared, (∀ b o, b ≠ L → b ≠ T → s.heap.get? b = some o → s''.heap.get? b = some o) → kap (.send .none) s''
abbrev escR (N0 : Nat) (C : Addr) : GenEnd := fun n s₀ r s₁ => r = .ok (.ret .none) ∧ (n = 0 ∧ Sin N0 C s₀ s₁)

section
variable {prog : Program} {w : World} {A : Around} {genv : Env} {x : Str} {t : Tok} {N0 C L : Nat} {B1 B2 : List Stmt} {p1 p2 p3 p4 p5 p6 p7 p8 p9 q1 q2 q3 q4 q5 q6 q7 q8 : Pos}
abbrev escBody (B1 B2 : List Stmt) (p1 p2 p3 p4 p5 p6 p7 p8 p9 q1 q2 : Pos) : List Stmt := [.If (.Name "escape" p1) B1 [.If (.Compare (.Name "ch" p2) [.Eq] [.Constant (.str "\\") 0 p3] p4) B2 [.Expr (.Yield (some (.Tuple [.Name "pos" p5, .Name "ch" p6] 0 p7)) p8) p9] q1] q2]
abbrev escTgt (q3 q4 q5 : Pos) : Expr := .Tuple [.Name "pos" q3, .Name "ch" q4] 0 q5

theorem escLoop {k : Result → Sem Fin} {l : List Value} {c : Code} {p : Pos} (G : EscEnv genv) (hh : A.handled = none) (hC : genv.locals = C) (hCL : C ≠ L) (hCN : C < N0) (hLN : L < N0)
    (hb : ∀ (i c : Nat), x.cps[i]? = some c → c ≠ 92) {e it : Nat} (hei : e ≠ it) (heN : N0 ≤ e) (hiN : N0 ≤ it)
    (hend : ∀ s₀ s m, s.heap.Ns C m → m "escape" = some (.bool false) → Sin N0 C s₀ s → Seg (model prog w) A (escR N0 C) (escY x N0 C L) 0 s₀ c (k (.ok .next)) [] s) :
    ∀ (j i : Nat) (s₀ s : Shared) (m : Str → Option Value) (old : Value), x.cps.size - i = j → i ≤ x.cps.size → s.heap.Ns C m → m "escape" = some (.bool false) → IsEnum s.heap e it i old → s.heap.IsStrIter it "str_ascii_iterator" x t i → Sin N0 C s₀ s →
      Seg (model prog w) A (escR N0 C) (escY x N0 C L) (x.cps.size - i) s₀ (.forLoop (escTgt q3 q4 q5) (.ref e) (escBody B1 B2 p1 p2 p3 p4 p5 p6 p7 p8 p9 q1 q2) [] genv)
        ((model prog w).den (.forLoop (escTgt q3 q4 q5) (.ref e) (escBody B1 B2 p1 p2 p3 p4 p5 p6 p7 p8 p9 q1 q2) [] genv)) [.ret k none false l c p []] s := by
  have hh' : (A.over (.forLoop (escTgt q3 q4 q5) (.ref e) (escBody B1 B2 p1 p2 p3 p4 p5 p6 p7 p8 p9 q1 q2) [] genv) [.ret k none false l c p []]).handled = none := hh
  have D := Draws.strAscii (prog := prog) (w := w) (A := (A.over (.forLoop (escTgt q3 q4 q5) (.ref e) (escBody B1 B2 p1 p2 p3 p4 p5 p6 p7 p8 p9 q1 q2) [] genv) [.ret k none false l c p []]).in1) hh' it x t
  have heC : e ≠ C := fun q => by omega
  have hiC : it ≠ C := fun q => by omega
  have hL : L ≠ e := fun q => by omega
  have hLi : L ≠ it := fun q => by omega
  intro j
  induction j with
  | zero =>
    intro i s₀ s m old hj hi hn hm he hit hs
    have hin : i = x.cps.size := by omega
    subst hin
    refine seg_forLoop (wpAny_pyNext_enum_endD D he hit fun h' he' => ?_)
    refine seg_again rfl (seg_blockNil ?_)
    rw [Nat.sub_self]
    exact hend _ _ m (hn.extBut he' (Ne.symm hiC)) hm (hs.step fun b o h1 h2 h3 => he' b o (ne_low h1 hiN) h3)
  | succ j ih =>
    intro i s₀ s m old hj hi hn hm he hit hs
    have hlt : i < x.cps.size := by omega
    refine seg_forLoop (wpAny_pyNext_enum_itemD D he hit hlt hei (fun hm => hei (List.mem_singleton.mp hm)) fun v h₁ tk hP heo hit₁ ht₁ hz₁ hk₁ => ?_)
    obtain ⟨cc, u, hcc, rfl⟩ := hP
    have heH : e < s.heap.objs.size := Heap.lt_size he
    have hiH : it < s.heap.objs.size := by obtain ⟨_, y, _⟩ := hit; exact Heap.lt_size y
    have hCH : C < s.heap.objs.size := hn.lt
    dsimp only
    refine wpAny_letOwnedTupleGo_enum heo fun h₂ he₂ hs₂ => ?_
    replace hs₂ : Heap.SameBut e h₁ h₂ := hs₂
    have ht₂ : h₂.IsTuple s.heap.objs.size #[.int i tk, .str ⟨#[cc]⟩ u] := ⟨_, (hs₂.2 _ (Nat.ne_of_gt heH)).trans ht₁, rfl, _, rfl⟩
    have hz₂ : h₂.objs.size = s.heap.objs.size + 1 := hs₂.1.trans hz₁
    refine wpAny_assign_Tuple hh' ht₂ rfl rfl fun h₃ hx₃ => ?_
    replace hx₃ : Heap.ExtBut h₂.objs.size h₂ h₃ := hx₃
    have old₃ : ∀ b o, b < s.heap.objs.size → h₂.get? b = some o → h₃.get? b = some o := fun b o hb y => hx₃ b o (by rw [hz₂]; exact Nat.ne_of_lt (Nat.lt_succ_of_lt hb)) y
    have hn₃ : h₃.Ns C m := (hn.at fun o y => hk₁ _ o (Ne.symm heC) (Ne.symm hiC) y).sameBut hs₂ (Ne.symm heC) |>.at fun o y => old₃ _ o hCH y
    show wpAny _ _ (do holding [Value.str ⟨#[cc]⟩ u] (assign (.Name "pos" q3) genv (.int i tk)); do holding [] (assign (.Name "ch" q4) genv (.str ⟨#[cc]⟩ u)); pure ()) _ _ _
    subst hC
    refine wpAny_bind (wpAny_holding (wpAny_assign_Name (wpAny_storeName_local G.kpos hn₃ (fun h₄ hn₄ hs₄ => ?_) G.plain)))
    replace hs₄ : Heap.SameBut genv.locals h₃ h₄ := hs₄
    refine wpAny_bind (wpAny_holding (wpAny_assign_Name (wpAny_storeName_local G.kch hn₄ (fun h₅ hn₅ hs₅ => wpAny_pure ?_) G.plain)))
    replace hs₅ : Heap.SameBut genv.locals h₄ h₅ := hs₅
    have up : ∀ b o, b ≠ genv.locals → b < s.heap.objs.size → h₂.get? b = some o → h₅.get? b = some o := fun b o hbL hb y =>
      hs₅.extBut b o hbL (hs₄.extBut b o hbL (old₃ b o hb y))
    have he₅ : IsEnum h₅ e it ((i : Int) + 1) (.str ⟨#[cc]⟩ u) := up e _ heC heH he₂
    have hit₅ : h₅.IsStrIter it "str_ascii_iterator" x t (i + 1) := by
      obtain ⟨o, ho, r⟩ := hit₁.extBut hs₂.extBut (Ne.symm hei)
      exact ⟨o, up it o hiC hiH ho, r⟩
    have hk₅ : ∀ b o, b < N0 → b ≠ genv.locals → s.heap.get? b = some o → h₅.get? b = some o := fun b o h1 h2 h3 =>
      up b o h2 (Heap.lt_size h3) (hs₂.extBut b o (ne_low h1 heN) (hk₁ b o (ne_low h1 heN) (ne_low h1 hiN) h3))
    refine seg_execs_cons (seg_If ?_)
    refine wpAny_isTrue_value (wpAny_Name (wpAny_loadName_local G.kind G.kesc hn₅ (v := .bool false) (by rw [if_neg (by decide), if_neg (by decide)]; exact hm) (wpAny_truthy_bool ?_)))
    rw [if_neg Bool.false_ne_true]
    refine seg_execs_cons (seg_If ?_)
    refine wpAny_isTrue_Compare1 (wpAny_Name (wpAny_loadName_local G.kind G.kch hn₅ (v := .str ⟨#[cc]⟩ u) (by simp) (wpAny_Constant_str (PyProof.Rows.eq_str (wpAny_truthy_bool ?_)))))
    have hne : ((⟨#[cc]⟩ : Str) == ("\\" : Str)) = false := by
      refine beq_eq_false_iff_ne.mpr fun q => hb i cc hcc ?_
      have h1 : (("\\" : Str)).cps.toList = [92] := by decide
      have h2 := congrArg (fun y : Str => y.cps.toList) q
      dsimp only at h2
      rw [h1] at h2
      exact (List.cons.inj h2).1
    rw [hne, if_neg Bool.false_ne_true]
    have hlen : x.cps.size - i = (x.cps.size - (i + 1)) + 1 := by omega
    rw [hlen]
    refine seg_execs_cons (seg_Expr_Yield rfl rfl rfl ?_ G.co G.inter)
    refine wpAny_Tuple (wpAny_items_cons (wpAny_Name (wpAny_loadName_local G.kind G.kpos hn₅ (v := .int i tk) (by rw [if_neg (by decide), if_pos rfl]) (wpAny_items_cons (wpAny_Name (wpAny_loadName_local G.kind G.kch hn₅ (v := .str ⟨#[cc]⟩ u) (by simp) (wpAny_items_nil ?_)))))))
    refine ⟨by show 2 ≤ sizeLine; decide, fun kap hkap => ?_⟩
    refine ⟨_, _, _, i, cc, rfl, by omega, hcc, ?_, ⟨_, Heap.get?_push_size _ rfl, rfl, _, rfl⟩, hs.step fun b o h1 h2 h3 => Heap.get?_push_of_some _ (hk₅ b o h1 h2 h3), fun s'' hk' => hkap _ _ ?_⟩
    · show N0 ≤ h₅.objs.size
      have h6 : e < h₅.objs.size := Heap.lt_size he₅
      exact Nat.le_trans heN (Nat.le_of_lt h6)
    have lt₅ : ∀ b o, b < s.heap.objs.size → h₅.get? b = some o → b ≠ L → s''.heap.get? b = some o := fun b o h1 h2 h3 =>
      hk' b o h3 (Nat.ne_of_lt (Heap.lt_size h2)) (Heap.get?_push_of_some _ h2)
    refine seg_again rfl (ih (i + 1) s'' s'' (fun y => if y = "ch" then some (.str ⟨#[cc]⟩ u) else if y = "pos" then some (.int i tk) else m y) (.str ⟨#[cc]⟩ u) (by omega) hlt ?_ ?_ ?_ ?_ (Sin.refl _ _ _))
    · exact hn₅.at fun o ho => lt₅ _ o hCH ho hCL
    · rw [if_neg (by decide), if_neg (by decide)]; exact hm
    · have h7 : ((i + 1 : Nat) : Int) = (i : Int) + 1 := by push_cast; rfl
      rw [h7]
      exact lt₅ e _ heH he₅ (Ne.symm hL)
    · obtain ⟨o, ho, r⟩ := hit₅
      exact ⟨o, lt₅ it o hiH ho (Ne.symm hLi), r⟩

abbrev escFn (B1 B2 B3 : List Stmt) (p1 p2 p3 p4 p5 p6 p7 p8 p9 q1 q2 q3 q4 q5 r1 r2 r3 r4 r5 r6 r7 r8 r9 r10 r11 r12 : Pos) : List Stmt := [.Assign [.Name "pos" r2] (.Constant (.int 0) 0 r3) r4, .Assign [.Name "escape" r5] (.Constant (.bool false) 0 r6) r7, .For (escTgt q3 q4 q5) (.Call (.Name "enumerate" r1) [.Name "addr" r8] [] r9) (escBody B1 B2 p1 p2 p3 p4 p5 p6 p7 p8 p9 q1 q2) [] r10, .If (.Name "escape" r11) B3 [] r12]

theorem escFunc {B3 : List Stmt} {r1 r2 r3 r4 r5 r6 r7 r8 r9 r10 r11 r12 : Pos} {s : Shared} {m : Str → Option Value} (G : EscEnv genv) (hh : A.handled = none) (hC : genv.locals = C) (hCL : C ≠ L) (hCN : C < N0) (hLN : L < N0)
    (ha : x.cps.all (· < 128) = true) (hb : ∀ (i c : Nat), x.cps[i]? = some c → c ≠ 92) (hn : s.heap.Ns C m) (hm : m "addr" = some (.str x t)) (hN : N0 ≤ s.heap.objs.size)
    (hEnum : ∀ (A' : Around) (E : Value → Shared → Prop) (Q : Value → Shared → Prop) (s' : Shared), (∀ b o, b ≠ genv.locals → s.heap.get? b = some o → s'.heap.get? b = some o) → Q (.type "enumerate") s' → wpAny (model prog w) A' (eval (.Name "enumerate" r1) genv) Q E s') :
    Seg (model prog w) A (escR N0 C) (escY x N0 C L) x.cps.size s (.func (escFn B1 B2 B3 p1 p2 p3 p4 p5 p6 p7 p8 p9 q1 q2 q3 q4 q5 r1 r2 r3 r4 r5 r6 r7 r8 r9 r10 r11 r12) genv)
      ((model prog w).den (.func (escFn B1 B2 B3 p1 p2 p3 p4 p5 p6 p7 p8 p9 q1 q2 q3 q4 q5 r1 r2 r3 r4 r5 r6 r7 r8 r9 r10 r11 r12) genv)) [] s := by
  subst hC
  refine seg_func (seg_execs_cons (seg_stmt (wpAny_Assign_Name (wpAny_Constant_int (wpAny_storeName_local G.kpos hn (fun h₁ hn₁ hs₁ => ?_) G.plain)))))
  replace hs₁ : Heap.SameBut genv.locals s.heap h₁ := hs₁
  refine seg_execs_cons (seg_stmt (wpAny_Assign_Name (wpAny_Constant_bool (wpAny_storeName_local G.kesc hn₁ (fun h₂ hn₂ hs₂ => ?_) G.plain))))
  replace hs₂ : Heap.SameBut genv.locals h₁ h₂ := hs₂
  have kk : ∀ b o, b ≠ genv.locals → s.heap.get? b = some o → h₂.get? b = some o := fun b o h3 h4 => hs₂.extBut b o h3 (hs₁.extBut b o h3 h4)
  have hz : N0 ≤ h₂.objs.size := by rw [hs₂.1, hs₁.1]; exact hN
  refine seg_execs_cons (seg_For (Call_Name1 (hEnum _ _ _ _ kk ?_)))
  refine callWith_type1 (rest := []) (wpAny_items_cons (wpAny_Name (wpAny_loadName_local G.kind G.kaddr hn₂ (v := .str x t) (by rw [if_neg (by decide), if_neg (by decide)]; exact hm) (wpAny_items_nil ?_))))
  refine call_enumerate_str fun h₃ he₃ hit₃ hz₃ hk₃ => ?_
  refine wpAny_pyIter_enum he₃ ?_
  intro k g l p hg hk
  subst hg
  rw [show x.cps.size = x.cps.size - 0 from (Nat.sub_zero _).symm]
  refine escLoop G hh rfl hCL hCN hLN hb (Nat.succ_ne_self _) (Nat.le_succ_of_le hz) hz ?_ _ 0 s _ (fun y => if y = "escape" then some (.bool false) else if y = "pos" then some (.int 0 s.toks) else m y) .none rfl (Nat.zero_le _) (hn₂.at fun o ho => hk₃ _ o ho) (if_pos rfl) he₃ (by
    have e1 : strIterType x = "str_ascii_iterator" := by rw [strIterType, ha]; rfl
    rw [← e1]; exact hit₃) ⟨h₃, _, rfl, fun b o h4 h5 h6 => hk₃ b o (kk b o h5 h6)⟩
  intro s₀' s' m' hn' hm' hs'
  rw [hk]
  refine seg_execs_cons (seg_If ?_)
  refine wpAny_isTrue_value (wpAny_Name (wpAny_loadName_local G.kind G.kesc hn' (v := .bool false) hm' (wpAny_truthy_bool ?_)))
  rw [if_neg Bool.false_ne_true]
  exact seg_end (.ok (.ret .none)) ⟨rfl, rfl, hs'⟩
end
end Mine

namespace Mine
abbrev AllB (gs : Array GenState) : Prop := ∀ y ∈ gs, y.bare = true
section
variable {prog : Program} {w : World} {A : Around} {E : Value → Shared → Prop} {s : Shared}
theorem next_genQ {a : Addr} {g n : Nat} {gs : GenState} {P : Nat → Shared → Shared → Prop} {Y : Protocol} {Q : Option Value → Shared → Prop} (hh : A.handled = none)
    (hl : s.heap.NoLimit) (hroom : A.depth < recursionLimit) (hg : s.heap.IsGen a g) (hgs : s.gens[g]? = some gs)
    (hgo : gs.Goes (model prog w) A.in1 (fun n s₀ r s₁ => r = .ok (.ret .none) ∧ P n s₀ s₁) Y n (.send .none) (s.setGen g .running))
    (hY : ∀ v s₁ gs', gs'.bare = true → Y (n - 1) (s.setGen g .running) v s₁ (fun r' s'' => match n with
        | 0 => False
        | m + 1 => gs'.Goes (model prog w) A.in1 (fun n s₀ r s₁ => r = .ok (.ret .none) ∧ P n s₀ s₁) Y m r' s'') → Q (some v) (s₁.setGen g gs'))
    (hP : ∀ s₁, P n (s.setGen g .running) s₁ → ∀ h', (∀ b o, s₁.heap.get? b = some o → h'.get? b = some o) → Q none { s₁.setGen g .finished with heap := h' }) :
    wpAny (model prog w) A (pyNext (.ref a)) Q E s := by
  unfold pyNext
  refine wpAny_bind (wpAny_attempt (wpAny_callSpecial?_slot (name := Str.ofString "__next__") hg.typeIs slot_gen_next
    (wpAny_call_entry slot_gen_next hg.typeIs entry_gen_next ?_ (args_gen_next _))))
  show wpAny _ A.in1 (Builtin.Generator.genWake (.ref a) (.send .none)) _ _ s
  unfold Builtin.Generator.genWake
  refine wpAny_bind (wpAny_holding (wpAny_genNumber hg (wpAny_bind (wpAny_genState hgs ?_))))
  cases gs with
  | running => exact hgo.elim
  | finished => exact hgo.elim
  | _ =>
    refine wpAny_bind (wpAny_roomToWake hl hroom ?_)
    show wpAny _ A.in1 (.resume g (.send .none) [] _) _ _ s
    refine wpAny_resumeQ hgs hgo (fun x s₁ hx => ?_) (fun v s₁ gs' hb hv => wpAny_pure ⟨v, rfl, wpAny_pure (hY v s₁ gs' hb hv)⟩)
    obtain ⟨rfl, hp⟩ := hx
    show wpAny _ A.in1 (newExc (.type "StopIteration") [] >>= _) _ _ _
    refine wpAny_bind ?_
    simp only [newExc, newTuple]
    refine wpAny_bind (wpAny_newObj_type ?_ (by size_fits))
    refine wpAny_bind (m := firstArgMember _ _) (wpAny_of_eq (a := Value.none) (by first | rfl | (simp only [firstArgMember]; rfl)) ?_)
    refine wpAny_newObj_type ?_ (by size_fits)
    simp only [raiseNew]
    refine wpAny_bind (wpAny_bind (wpAny_handled ?_))
    first | rw [show A.in1.handled = none from hh] | rw [hh]
    refine wpAny_throw ?_
    refine wpAny_bind (wpAny_isInstance (T := "StopIteration") (b := true) ⟨_, Heap.get?_push_size _ rfl, rfl⟩ isSubtype_stop ?_)
    exact wpAny_pure (hP s₁ hp _ fun b o hb => Heap.get?_push_of_some _ (Heap.get?_push_of_some _ hb))

def GenSt (prog : Program) (w : World) (A : Around) (a g N0 C L : Nat) (x : Str) (i : Nat) (s : Shared) : Prop :=
  s.heap.IsGen a g ∧ ∃ gs, s.gens[g]? = some gs ∧ ∀ s'' : Shared, (∀ b o, b ≠ L → s.heap.get? b = some o → s''.heap.get? b = some o) →
    gs.Goes (model prog w) A.in1 (escR N0 C) (escY x N0 C L) (x.cps.size - i) (.send .none) s''

theorem GenSt.frame {a g N0 C L : Nat} {x : Str} {i : Nat} (G : GenSt prog w A a g N0 C L x i s) (haL : a ≠ L) {h' : Heap} {tk : Nat} (hk : ∀ b o, b ≠ L → s.heap.get? b = some o → h'.get? b = some o) :
    GenSt prog w A a g N0 C L x i { s with heap := h', toks := tk } := by
  obtain ⟨hg, gs, hgs, hgo⟩ := G
  exact ⟨let ⟨o, nm, qn, ho, r⟩ := hg; ⟨o, nm, qn, hk _ _ haL ho, r⟩, gs, hgs, fun s'' hal => hgo s'' fun b o hb e => hal b o hb (hk b o hb e)⟩

theorem allB_set {s : Shared} {g : Nat} {x : GenState} (h : AllB s.gens) (hx : x.bare = true) : AllB (s.setGen g x).gens := by
  intro y hy
  have hy' : y ∈ (s.gens.setIfInBounds g x) := hy
  rcases Array.mem_or_eq_of_mem_setIfInBounds hy' with h1 | h1
  · exact h y h1
  · rw [h1]; exact hx

theorem genNext_item {a g N0 C L : Nat} {x : Str} {i : Nat} {Q : Option Value → Shared → Prop} (hh : A.handled = none) (hl : s.heap.NoLimit) (hroom : A.depth < recursionLimit)
    (G : GenSt prog w A a g N0 C L x i s) (hB : AllB s.gens) (haN : a < N0) (haC : a ≠ C) (hi : i < x.cps.size)
    (hQ : ∀ (T : Addr) (t u : Tok) (c : Nat) h tk gs, x.cps[i]? = some c → h.IsTuple T #[.int i t, .str ⟨#[c]⟩ u] → N0 ≤ T → (∀ b o, b < N0 → b ≠ C → s.heap.get? b = some o → h.get? b = some o) →
      GenSt prog w A a g N0 C L x (i + 1) { s with heap := h, toks := tk, gens := gs } → AllB gs → Q (some (.ref T)) { s with heap := h, toks := tk, gens := gs }) :
    wpAny (model prog w) A (pyNext (.ref a)) Q E s := by
  obtain ⟨hg, gs, hgs, hgo⟩ := G
  obtain ⟨m, hm⟩ : ∃ m, x.cps.size - i = m + 1 := ⟨x.cps.size - i - 1, by omega⟩
  rw [hm] at hgo
  refine next_genQ (P := fun n s₀ s₁ => n = 0 ∧ Sin N0 C s₀ s₁) hh hl hroom hg hgs (hgo _ fun _ _ _ e => e) (fun v s₁ gs' hb hv => ?_) (fun s₁ hp h' hk => absurd hp.1 (Nat.succ_ne_zero m))
  obtain ⟨T, t, u, j, c, rfl, hj, hc, hT, hTup, ⟨h₁, tk₁, rfl, hk₁⟩, hkap⟩ := hv
  have hji : j = i := by omega
  subst hji
  refine hQ T t u c h₁ tk₁ _ hc hTup hT hk₁ ⟨let ⟨o, nm, qn, ho, r⟩ := hg; ⟨o, nm, qn, hk₁ _ _ haN haC ho, r⟩, gs', setGen_self (gs := .running) (setGen_self hgs), fun s'' hal => ?_⟩ (allB_set (s := { s.setGen g .running with heap := h₁, toks := tk₁ }) (allB_set hB rfl) hb)
  have e : x.cps.size - (j + 1) = m := by omega
  rw [e]
  exact hkap s'' fun b o hb _ e => hal b o hb e

theorem genNext_end {a g N0 C L : Nat} {x : Str} {Q : Option Value → Shared → Prop} (hh : A.handled = none) (hl : s.heap.NoLimit) (hroom : A.depth < recursionLimit)
    (G : GenSt prog w A a g N0 C L x x.cps.size s) (hB : AllB s.gens)
    (hQ : ∀ h tk gs, (∀ b o, b < N0 → b ≠ C → s.heap.get? b = some o → h.get? b = some o) → AllB gs → Q none { s with heap := h, toks := tk, gens := gs }) :
    wpAny (model prog w) A (pyNext (.ref a)) Q E s := by
  obtain ⟨hg, gs, hgs, hgo⟩ := G
  rw [Nat.sub_self] at hgo
  refine next_genQ (P := fun n s₀ s₁ => n = 0 ∧ Sin N0 C s₀ s₁) hh hl hroom hg hgs (hgo _ fun _ _ _ e => e) (fun v s₁ gs' hb hv => ?_) (fun s₁ hp h' hk => ?_)
  · obtain ⟨T, t, u, j, c, rfl, hj, hc, hT, hTup, ⟨h₁, tk₁, rfl, hk₁⟩, hkap⟩ := hv
    exact (hkap { s.setGen g .running with heap := h₁, toks := tk₁ } fun b o _ _ e => e).elim
  · obtain ⟨_, h₁, tk₁, rfl, hk₁⟩ := hp
    exact hQ _ _ _ (fun b o h1 h2 h3 => hk b o (hk₁ b o h1 h2 h3)) (allB_set (s := { s.setGen g .running with heap := h₁, toks := tk₁ }) (allB_set hB rfl) rfl)
end
end Mine

namespace Mine
section
variable {prog : Program} {w : World} {A : Around} {E : Value → Shared → Prop} {s : Shared}
noncomputable def allObj (h₀ : Heap) (L : Addr) (h : Heap) : List (Addr × Obj) := (List.range h.objs.size).filterMap fun b => if b = L then none else match h₀.get? b, h.get? b with | none, some o => some (b, o) | _, _ => none
theorem allObj_mem {h₀ h : Heap} {L b : Addr} {o : Obj} : (b, o) ∈ allObj h₀ L h ↔ b ≠ L ∧ h₀.get? b = none ∧ h.get? b = some o := by
  unfold allObj
  simp only [List.mem_filterMap, List.mem_range]
  constructor
  · rintro ⟨c, hc, h1⟩
    split at h1
    · cases h1
    · rename_i hcL
      split at h1
      · rename_i e1 e2
        obtain ⟨rfl, rfl⟩ := Prod.mk.inj (Option.some.inj h1)
        exact ⟨hcL, e1, e2⟩
      · cases h1
  · rintro ⟨h1, h2, h3⟩
    refine ⟨b, Heap.lt_size h3, ?_⟩
    rw [if_neg h1, h2, h3]
theorem allObj_news {h₀ h : Heap} {L : Addr} : News h₀ L h (allObj h₀ L h) := fun p hp => by
  obtain ⟨h1, h2, h3⟩ := allObj_mem.mp (show (p.1, p.2) ∈ _ from hp)
  exact ⟨h3, h1, h2⟩
theorem allObj_keep {h₀ h h' : Heap} {L : Addr} {m : Str → Option Value} (F : Fr h₀ L h m) {m' : Str → Option Value} (F' : Fr h₀ L h' m') (N' : News h₀ L h' (allObj h₀ L h)) (b : Addr) (o : Obj) (hb : b ≠ L) (e : h.get? b = some o) : h'.get? b = some o := by
  cases q : h₀.get? b with
  | none => exact (N' (b, o) (allObj_mem.mpr ⟨hb, q, e⟩)).1
  | some o' =>
    have h1 := F.keep b o' q
    rw [e] at h1
    cases h1
    exact F'.keep b o q

theorem letGo_gen {elts : List Expr} {x1} {pos : Pos} {a g : Nat} {T : Addr} {Q : Unit → Shared → Prop} (hg : s.heap.IsGen a g) (hQ : Q () s) :
    wpAny (model prog w) A (letOwnedTupleGo (.Tuple elts x1 pos) (.ref a) (.ref T)) Q E s := by
  obtain ⟨o, nm, qn, ho, hc, hd, _⟩ := hg
  unfold letOwnedTupleGo
  refine wpAny_bind (wpAny_load ho ?_)
  simp only [hc, hd]
  rw [if_neg (by
    intro h
    rw [show (["enumerate", "zip", "dict_itemiterator", "dict_reverseitemiterator", "odict_iterator", "itertools.zip_longest", "itertools.pairwise"].contains "generator") = false from by decide, Bool.false_and] at h
    cases h)]
  exact wpAny_pure hQ

def GPost (h₀ : Heap) (L : Addr) (P : Prop) (d : Int) (big : List (Addr × Obj)) (s₁ : Shared) (Rr : Value → Shared → Prop) (f : Flow) (s₃ : Shared) : Prop := match f with
  | .next | .cont => ∃ h' tk td m', s₃ = { s₁ with heap := h', toks := tk } ∧ Fr h₀ L h' m' ∧ m' "opens" = some (.int d td) ∧ News h₀ L h' big ∧ P
  | .brk => False
  | .ret v => Rr v s₃
theorem GPost.next {h₀ : Heap} {L : Addr} {P : Prop} {d : Int} {big news' : List (Addr × Obj)} {s₁ : Shared} {Rr : Value → Shared → Prop} {h' : Heap} {tk : Nat} {m' : Str → Option Value} {td : Tok}
    (F : Fr h₀ L h' m') (N : News h₀ L h' news') (hsub : ∀ p ∈ big, p ∈ news') (hm : m' "opens" = some (.int d td)) (hP : P) : GPost h₀ L P d big s₁ Rr .next { s₁ with heap := h', toks := tk } :=
  ⟨h', tk, td, m', rfl, F, hm, fun p hp => N p (hsub p hp), hP⟩

theorem genLoop {R : Result → Shared → Prop} {env : Env} {x : Str} {a g N0 C L : Nat} {h₀ : Heap} {q3 q4 q5 : Pos} {body : List Stmt} {m : Str → Option Value} {news : List (Addr × Obj)} {t0 : Tok} (dep : Nat → Int) (P : Nat → Prop)
    (hh : A.handled = none) (hroom : A.depth < recursionLimit) (hpos : env.kindOf "pos" = some .local) (hch : env.kindOf "ch" = some .local)
    (hp : (env.scope.kind == .class || (env.scope.kind == .module && env.locals != env.globals)) = false) (hL : env.locals = L)
    (haL : a ≠ L) (haN : a < N0) (haC : a ≠ C) (hLN : L < N0) (hCL : C ≠ L) (hC0 : h₀.objs.size ≤ C) (hnews : ∀ p ∈ news, p.1 < N0 ∧ p.1 ≠ C) (hlim : h₀.NoLimit)
    (G : GenSt prog w A a g N0 C L x 0 s) (hB : AllB s.gens) (F : Fr h₀ L s.heap m) (N : News h₀ L s.heap news) (hm : m "opens" = some (.int (dep 0) t0)) (hP0 : P 0)
    (turn : ∀ (i c : Nat) (t u td : Tok) (m' : Str → Option Value) h tk gs (big : List (Addr × Obj)), x.cps[i]? = some c → P i → AllB gs → Fr h₀ L h (fun y => if y = "ch" then some (.str ⟨#[c]⟩ u) else if y = "pos" then some (.int i t) else if y = "opens" then some (.int (dep i) td) else m' y) →
      News h₀ L h (big ++ news) → wpAny (model prog w) A (execs body env) (GPost h₀ L (P (i + 1)) (dep (i + 1)) (big ++ news) { s with heap := h, toks := tk, gens := gs } (fun v s' => R (.ok (.ret v)) s')) (fun _ _ => False) { s with heap := h, toks := tk, gens := gs })
    (done : ∀ (td : Tok) (m' : Str → Option Value) h tk gs, P x.cps.size → Fr h₀ L h (fun y => if y = "opens" then some (.int (dep x.cps.size) td) else m' y) → News h₀ L h news → AllB gs → R (.ok .next) { s with heap := h, toks := tk, gens := gs }) :
    codeAny (model prog w) A (.forLoop (escTgt q3 q4 q5) (.ref a) body [] env) R s := by
  refine codeAny_forLoop_any (fun k s' => ∃ h tk gs m' td i, s' = { s with heap := h, toks := tk, gens := gs } ∧ GenSt prog w A a g N0 C L x i s' ∧ AllB gs ∧ Fr h₀ L h m' ∧ m' "opens" = some (.int (dep i) td) ∧ News h₀ L h news ∧ P i ∧ i ≤ x.cps.size ∧ k = x.cps.size + 1 - i) ?_ (x.cps.size + 1)
    ⟨s.heap, s.toks, s.gens, m, t0, 0, rfl, G, hB, F, hm, N, hP0, Nat.zero_le _, rfl⟩
  rintro k s' ⟨h, tk, gs, m', td, i, rfl, G', hB', F', hm', N', hPi, hi, rfl⟩
  have keep : ∀ h₁ : Heap, (∀ b o, b < N0 → b ≠ C → h.get? b = some o → h₁.get? b = some o) → Fr h₀ L h₁ m' ∧ News h₀ L h₁ news := fun h₁ hk => by
    refine ⟨⟨F'.ns.at fun o e => hk L o hLN (Ne.symm hCL) e, fun b o e => hk b o ?_ ?_ (F'.keep b o e), F'.above⟩, fun p hp => ⟨hk _ _ (hnews p hp).1 (hnews p hp).2 (N' p hp).1, (N' p hp).2⟩⟩
    · exact Nat.lt_trans (Nat.lt_of_lt_of_le (Heap.lt_size e) F'.above) hLN
    · exact Nat.ne_of_lt (Nat.lt_of_lt_of_le (Heap.lt_size e) hC0)
  rcases Nat.lt_or_ge i x.cps.size with hlt | hge
  · refine genNext_item hh (hlim.keeps F'.keep) hroom G' hB' haN haC hlt fun T t u c h₁ tk₁ gs₁ hc hT hTN hk₁ G₁ hB₁ => ?_
    obtain ⟨F₁, N₁⟩ := keep h₁ hk₁
    obtain ⟨oT, hoT, _⟩ := id hT
    have hTs : T < h₁.objs.size := Heap.lt_size hoT
    dsimp only
    refine letGo_gen G₁.1 ?_
    refine wpAny_assign_Tuple hh hT rfl rfl fun h₃ hx₃ => ?_
    replace hx₃ : Heap.ExtBut h₁.objs.size h₁ h₃ := hx₃
    have up₃ : ∀ b o, h₁.get? b = some o → h₃.get? b = some o := fun b o e => hx₃ b o (Nat.ne_of_lt (Heap.lt_size e)) e
    have F₃ : Fr h₀ L h₃ m' := ⟨F₁.ns.keeps up₃, fun b o e => up₃ b o (F₁.keep b o e), F₁.above⟩
    show wpAny _ _ (do holding [Value.str ⟨#[c]⟩ u] (assign (.Name "pos" q3) env (.int i t)); do holding [] (assign (.Name "ch" q4) env (.str ⟨#[c]⟩ u)); pure ()) _ _ _
    subst hL
    refine wpAny_bind (wpAny_holding (wpAny_assign_Name (wpAny_storeName_local hpos F₃.ns (fun h₄ hn₄ hs₄ => ?_) hp)))
    replace hs₄ : Heap.SameBut env.locals h₃ h₄ := hs₄
    refine wpAny_bind (wpAny_holding (wpAny_assign_Name (wpAny_storeName_local hch hn₄ (fun h₅ hn₅ hs₅ => wpAny_pure ?_) hp)))
    replace hs₅ : Heap.SameBut env.locals h₄ h₅ := hs₅
    have F₅ := (F₃.set hn₄ hs₄).set hn₅ hs₅
    have up₅ : ∀ b o, b ≠ env.locals → h₁.get? b = some o → h₅.get? b = some o := fun b o hb e => hs₅.extBut b o hb (hs₄.extBut b o hb (up₃ b o e))
    have em : (fun y : Str => if y = "ch" then some (Value.str ⟨#[c]⟩ u) else if y = "pos" then some (.int i t) else m' y) = fun y : Str => if y = "ch" then some (Value.str ⟨#[c]⟩ u) else if y = "pos" then some (.int i t) else if y = "opens" then some (.int (dep i) td) else m' y := by
      funext y
      by_cases hy : y = "opens"
      · rw [if_pos hy, hy, hm']
      · rw [if_neg hy]
    rw [em] at F₅
    have N₅ : News h₀ env.locals h₅ (allObj h₀ env.locals h₅ ++ news) := fun p hp => by
      rcases List.mem_append.mp hp with hp | hp
      · exact allObj_news p hp
      · exact ⟨up₅ _ _ (N₁ p hp).2.1 (N₁ p hp).1, (N₁ p hp).2⟩
    refine wpAny_mono (wpAny_noRaise (turn i c t u td m' h₅ _ gs₁ _ hc hPi hB₁ F₅ N₅)) (fun f s₃ hpost => ?_) fun _ _ e => e
    have nxt : ∀ f', (f' = Flow.next ∨ f' = Flow.cont) → GPost h₀ env.locals (P (i + 1)) (dep (i + 1)) (allObj h₀ env.locals h₅ ++ news) { s with heap := h₅, toks := tk₁ + 1 + 1, gens := gs₁ } (fun v s' => R (.ok (.ret v)) s') f' s₃ →
        ∃ mm, mm < x.cps.size + 1 - i ∧ ∃ h tk gs m' td j, s₃ = { s with heap := h, toks := tk, gens := gs } ∧ GenSt prog w A a g N0 C env.locals x j s₃ ∧ AllB gs ∧ Fr h₀ env.locals h m' ∧ m' "opens" = some (.int (dep j) td) ∧ News h₀ env.locals h news ∧ P j ∧ j ≤ x.cps.size ∧ mm = x.cps.size + 1 - j := by
      intro f' hf' hp'
      have hp'' : ∃ h' tk td m', s₃ = { s with heap := h', toks := tk, gens := gs₁ } ∧ Fr h₀ env.locals h' m' ∧ m' "opens" = some (.int (dep (i + 1)) td) ∧ News h₀ env.locals h' (allObj h₀ env.locals h₅ ++ news) ∧ P (i + 1) := by
        rcases hf' with rfl | rfl <;> exact hp'
      obtain ⟨h₆, tk₆, td₆, m₆, rfl, F₆, hm₆, N₆, hP₆⟩ := hp''
      refine ⟨x.cps.size + 1 - (i + 1), by omega, h₆, tk₆, gs₁, m₆, td₆, i + 1, rfl, ?_, hB₁, F₆, hm₆, fun p hp => N₆ p (List.mem_append_right _ hp), hP₆, hlt, rfl⟩
      exact GenSt.frame (s := { s with heap := h₁, toks := tk₁, gens := gs₁ }) G₁ haL fun b o hb e => allObj_keep F₅ F₆ (fun p hp => N₆ p (List.mem_append_left _ hp)) b o hb (up₅ b o hb e)
    cases f with
    | next => exact nxt _ (.inl rfl) hpost
    | cont => exact nxt _ (.inr rfl) hpost
    | brk => exact hpost.elim
    | ret v => exact hpost
  · have hin : i = x.cps.size := Nat.le_antisymm hi hge
    subst hin
    refine genNext_end hh (hlim.keeps F'.keep) hroom G' hB' fun h₁ tk₁ gs₁ hk₁ hB₁ => wpAny_execs_nil ?_
    obtain ⟨F₁, N₁⟩ := keep h₁ hk₁
    refine done td m' h₁ tk₁ gs₁ hPi ?_ N₁ hB₁
    have em : m' = fun y : Str => if y = "opens" then some (.int (dep x.cps.size) td) else m' y := by
      funext y
      by_cases hy : y = "opens"
      · rw [if_pos hy, hy, hm']
      · rw [if_neg hy]
    rw [em] at F₁
    exact F₁
end
end Mine

namespace Mine
theorem fill_h : PySem.Challenge.rw_xo0015_01 = PySem.Challenge.rw_xo0015_01 ∧ hd.heap_39 = hd.heap_39 := by
  k_fill
  exact ⟨rfl, rfl⟩
local macro_rules | `(tactic| k_room) => `(tactic| ktr_room)
local macro_rules | `(tactic| walk_at "exec For Name Call cons nil") => `(tactic| (k_here; (rename Fr _ _ _ _ => lF'); (with_unfolding_all refine' For_invVF lF' ?k1 ?k2 ?_; (case k1 => exact rfl); (case k2 => exact rfl); k_whole)))
local macro_rules | `(tactic| walk_at "pyIter ref") => `(tactic| k_extra "pyIter ref")
local macro_rules | `(tactic| walk_at "InvEndN") => `(tactic| k_extra "InvEndN")
section
variable (w : World) (mean : ExcName → Option Value) (mg mb : Str → Option Value) (news : List (Addr × Obj))

section
variable {prog : Program} {w : World} {A₀ A : Around} {s : Shared} {base h₀ : Heap} {outer : List Env} {L : Addr} {m : Str → Option Value} {env : Env} {news : List (Addr × Obj)} {K : Frag}
theorem code_gen {p : Program} {loose : List Str} {mean : ExcName → Option Value} {mg mb : Str → Option Value} {R : Result → Shared → Prop} {name qual : Str} {params : Arguments} {body : List Stmt} {scope : Scope} {dV kV doc pm cdv ct oc : Value} {an od : Option Addr} {osl : Array (Option Value)} {f : Addr} {args : Args} {binds : List (Str × Value)}
    (F : Fr h₀ L s.heap m) (X₀ : K.In h₀) (N : News h₀ L s.heap news) (T : Top p loose mean mg mb h₀)
    (ho : K.lookup f = some ⟨oc, od, .func (fnOf name qual params body scope dV kV doc pm an cdv ct), osl⟩) (hcd : codeIn K cdv qual = true) (hroom : A.depth < recursionLimit)
    (hbind : BindsTo s (fnOf name qual params body scope dV kV doc pm an cdv ct) args binds) (hloc : ∀ y ∈ binds, scope.names.lookup y.1 = some .local)
    (h : ∀ C a h₁ tk, Fr h₀ L h₁ m → News h₀ L h₁ news → h₁.Ns C (fun y => binds.reverse.lookup y) → s.heap.objs.size = C → a + 1 = h₁.objs.size → C < a → h₁.IsGen a s.gens.size →
      R (.ok (.ret (.ref a))) { s with gens := s.gens.push (.fresh (.func body (envOf qual scope C f cdv))), toks := tk, heap := h₁ })
    (hco : scope.isCoroutine = false) (hgen : scope.isGenerator = true) (hk : scope.kind = .function)
    (hcell : ∀ x ∈ scope.names, x.2 ≠ .cell) : codeAny (model prog w) A (.call (.ref f) args) R s := by
  refine codeAny_call_generator (fd := fnX name qual params body scope [] dV kV doc pm an cdv ct) (body := body) hroom ((X₀.keeps F.keep) _ _ ho) rfl hco hgen rfl (codeRec_of (X₀.keeps F.keep) hcd) (hbind _ _ _ _ ?_)
  refine wpAny_newFunctionEnv hcell hloc (fun h₁ hns hsb => ⟨(T.nolimit.keeps F.keep).fresh _ hsb, ?_⟩) hk
  have keep : ∀ b o, s.heap.get? b = some o → h₁.get? b = some o := fun b o e => hsb.extBut b o (Nat.ne_of_lt (Heap.lt_size e)) (Heap.get?_push_of_some _ e)
  have hsz : h₁.objs.size = s.heap.objs.size + 1 := by rw [hsb.1, Heap.size_push]
  refine h s.heap.objs.size h₁.objs.size _ _ ((F.keeps keep).push _) (fun p hp => ⟨Heap.get?_push_of_some _ (keep _ _ (N p hp).1), (N p hp).2⟩) (hns.push _) rfl (by rw [Heap.size_push]) (by rw [hsz]; exact Nat.lt_succ_self _) ⟨_, _, _, Heap.get?_push_size _ rfl, rfl, rfl, rfl⟩
end
theorem forIn_same {α β : Type} (l : List α) (c : β) (f : α → β → Id (ForInStep β)) (h : ∀ x ∈ l, f x c = .yield c) : forIn (m := Id) l c f = c := by
  induction l with
  | nil => rfl
  | cons x r ih =>
    rw [List.forIn_cons, h x (List.mem_cons_self ..)]
    exact ih fun y hy => h y (List.mem_cons_of_mem _ hy)
open Builtin.Str in
theorem occ_nil (s sub : Str) (n : Nat) (h : ∀ i, i + sub.length ≤ n → subAt s sub i = false) : occurrences s sub 0 n 1 = [] := by
  unfold occurrences
  simp only [Id.run]
  rw [Std.Legacy.Range.forIn_eq_forIn_range']
  rw [forIn_same]
  · rfl
  · intro i hi
    rw [if_neg]
    · rfl
    · intro q
      simp only [Bool.and_eq_true, decide_eq_true_eq] at q
      rw [h i q.1.2] at q
      exact absurd q.2 Bool.false_ne_true
open Builtin.Str in
theorem quote_free (bs : List Bool) : (!(!(occurrences (txtB bs) (Str.ofString "\"") 0 (txtB bs).length 1).isEmpty)) = true := by
  rw [occ_nil]
  · rfl
  · intro i hi
    have e1 : (Str.ofString "\"") = ⟨#[34]⟩ := by decide +kernel
    rw [e1] at hi ⊢
    have hi' : i + 1 ≤ bs.length := by rw [txtB_len] at hi; exact hi
    unfold subAt
    rw [beq_eq_false_iff_ne]
    intro q
    have h2 := congrArg (fun a : Array Nat => a[0]?) q
    have hl : i < bs.length := hi'
    simp [txtB, hl, Str.length] at h2
    cases hb : bs[i] <;> simp [hb] at h2
set_option maxHeartbeats 1500000 in
theorem strip_spec (bs : List Bool) (t : Tok) : Spec w mean mg mb 108 4 60 news [.str (txtB bs) t] (RetV fun t => .str (txtB bs) t) := by
  dsimp only [Spec, RetV]
  intros
  rename_i hret
  k_with_none
  k_with "compareOp NotIn str str" => ((refine PyProof.Rows.notIn_str ?_; rw [quote_free bs]))
  refine wpAny_call ?_
  k_dflt cell_enter
  k_steps
  exact hret _ _ _ (by k_asm) (by k_asm)

def depB (bs : List Bool) (i : Nat) : Int := (bs.take i).foldl (fun d b => if b then d + 1 else d - 1) 0
def okB : List Bool → Int → Bool
  | [], d => d == 0
  | true :: r, d => okB r (d + 1)
  | false :: r, d => if d - 1 < 0 then false else okB r (d - 1)
def okP (bs : List Bool) (i : Nat) : Prop := okB (bs.drop i) (depB bs i) = okB bs 0
theorem depB_succ {bs : List Bool} {i : Nat} (h : i < bs.length) : depB bs (i + 1) = if bs[i] then depB bs i + 1 else depB bs i - 1 := by
  unfold depB
  rw [List.take_add_one, List.getElem?_eq_getElem h, List.foldl_append]
  rfl
theorem okP_zero (bs : List Bool) : okP bs 0 := by unfold okP depB; rfl
theorem okP_up {bs : List Bool} {i : Nat} (h : i < bs.length) (hb : bs[i] = true) (hp : okP bs i) : okP bs (i + 1) := by
  unfold okP at hp ⊢
  rw [List.drop_eq_getElem_cons h, hb, okB] at hp
  rw [depB_succ h, hb, if_pos rfl]; exact hp
theorem okP_dn {bs : List Bool} {i : Nat} (h : i < bs.length) (hb : bs[i] = false) (hp : okP bs i) (hd : ¬ depB bs i - 1 < 0) : okP bs (i + 1) := by
  unfold okP at hp ⊢
  rw [List.drop_eq_getElem_cons h, hb, okB, if_neg hd] at hp
  rw [depB_succ h, hb, if_neg Bool.false_ne_true]; exact hp
theorem okP_out {bs : List Bool} {i : Nat} (h : i < bs.length) (hb : bs[i] = false) (hp : okP bs i) (hd : depB bs i - 1 < 0) : okB bs 0 = false := by
  unfold okP at hp
  rw [List.drop_eq_getElem_cons h, hb, okB, if_pos hd] at hp
  exact hp.symm
theorem okP_end {bs : List Bool} (hp : okP bs bs.length) : okB bs 0 = (depB bs bs.length == 0) := by
  unfold okP at hp
  rw [List.drop_length] at hp
  exact hp.symm
theorem txtB_get {bs : List Bool} {i c : Nat} (h : (txtB bs).cps[i]? = some c) : ∃ hi : i < bs.length, (⟨#[c]⟩ : Str) = chB bs[i] ∧ c = if bs[i] then 40 else 41 := by
  unfold txtB at h
  simp only [List.getElem?_toArray, List.getElem?_map, Option.map_eq_some_iff] at h
  obtain ⟨b, hb, hc⟩ := h
  obtain ⟨hi, hbi⟩ := List.getElem?_eq_some_iff.mp hb
  refine ⟨hi, ?_, ?_⟩
  · rw [hbi, chB, ch1, ch2, ← hc]
    cases b <;> rfl
  · rw [hbi]; exact hc.symm
theorem txtB_low (bs : List Bool) : (txtB bs).cps.all (· < 128) = true := by
  rw [Array.all_eq_true]
  intro i hi
  obtain ⟨_, _, hc⟩ := txtB_get (Array.getElem?_eq_getElem hi)
  rw [hc]
  split <;> decide
theorem txtB_plain (bs : List Bool) : ∀ (i c : Nat), (txtB bs).cps[i]? = some c → c ≠ 92 := by
  intro i c h
  obtain ⟨_, _, hc⟩ := txtB_get h
  rw [hc]
  split <;> decide
theorem txtB_size (bs : List Bool) : (txtB bs).cps.size = bs.length := txtB_len bs
end

section
variable {prog : Program} {w : World} {A : Around} {s : Shared} {genv : Env} {x : Str} {t : Tok} {C L a : Nat} {B1 B2 B3 : List Stmt} {p1 p2 p3 p4 p5 p6 p7 p8 p9 q1 q2 q3 q4 q5 r1 r2 r3 r4 r5 r6 r7 r8 r9 r10 r11 r12 : Pos}
theorem genStart {h₁ : Heap} {tk : Nat} {m : Str → Option Value} (G : EscEnv genv) (hh : A.handled = none) (hC : genv.locals = C) (hCa : C < a) (haE : a + 1 = h₁.objs.size) (hCL : C ≠ L) (haL : a ≠ L) (hLN : L < h₁.objs.size)
    (ha : x.cps.all (· < 128) = true) (hb : ∀ (i c : Nat), x.cps[i]? = some c → c ≠ 92) (hn : h₁.Ns C m) (hm : m "addr" = some (.str x t)) (hGen : h₁.IsGen a s.gens.size)
    (hEnum : ∀ (A' : Around) (E : Value → Shared → Prop) (Q : Value → Shared → Prop) (s' : Shared), (∀ b o, b ≠ genv.locals → b ≠ L → h₁.get? b = some o → s'.heap.get? b = some o) → Q (.type "enumerate") s' → wpAny (model prog w) A' (eval (.Name "enumerate" r1) genv) Q E s') :
    GenSt prog w A a s.gens.size h₁.objs.size C L x 0 { s with gens := s.gens.push (.fresh (.func (escFn B1 B2 B3 p1 p2 p3 p4 p5 p6 p7 p8 p9 q1 q2 q3 q4 q5 r1 r2 r3 r4 r5 r6 r7 r8 r9 r10 r11 r12) genv)), toks := tk, heap := h₁ } := by
  refine ⟨hGen, _, Array.getElem?_push_size .., fun s'' hal => ⟨rfl, ?_⟩⟩
  obtain ⟨o, nm, qn, ho, _⟩ := hGen
  have hlt : a < s''.heap.objs.size := Heap.lt_size (hal a o haL ho)
  rw [Nat.sub_zero]
  exact escFunc (A := A.in1) G hh hC hCL (by omega) hLN ha hb (hn.at fun o e => hal C o hCL e) hm (by omega) fun A' E Q s' hk hq => hEnum A' E Q s' (fun b o h1 h2 h3 => hk b o h1 (hal b o h2 h3)) hq
theorem enum_name {M : Model} {p : Program} {loose : List Str} {mean : ExcName → Option Value} {mg mb : Str → Option Value} {h₀ h₁ : Heap} {m : Str → Option Value} {K : Frag} {cn : Str} {cs : Scope} {f : Addr} {ccd : Value} (F₁ : Fr h₀ L h₁ m) (X : K.In h₀) (T : Top p loose mean mg mb h₀) (hC0 : h₀.objs.size ≤ C) (e : nsIn K mainGlobals "enumerate" = some none)
    (hk : cs.kind = .function) (hx : (envX cn cs C f ccd []).kindOf "enumerate" = some .globalImplicit) :
    ∀ (A' : Around) (E : Value → Shared → Prop) (Q : Value → Shared → Prop) (s' : Shared), (∀ b o, b ≠ (envX cn cs C f ccd []).locals → b ≠ L → h₁.get? b = some o → s'.heap.get? b = some o) → Q (.type "enumerate") s' → wpAny M A' (eval (.Name "enumerate" r1) (envX cn cs C f ccd [])) Q E s' := by
  intro A' E Q s' hk' hq
  have kk : ∀ b o, h₀.get? b = some o → s'.heap.get? b = some o := fun b o e => hk' b o (Nat.ne_of_lt (Nat.lt_of_lt_of_le (Heap.lt_size e) hC0)) (Nat.ne_of_lt (Nat.lt_of_lt_of_le (Heap.lt_size e) F₁.above)) (F₁.keep b o e)
  exact PySem.Calls.Name_function_global hk hx (PySem.Calls.loadGlobal_builtin (env := envX cn cs C f ccd []) (T.g.keeps kk) (mg_none_of X T.g e) (T.b.keeps kk) ((T.builtins _ (by decide)).trans PyProof.Rows.boot_enumerate) hq) (by decide)
end
end Mine

namespace Mine
theorem fill_i : PySem.Challenge.rw_xo0015_01 = PySem.Challenge.rw_xo0015_01 ∧ hd.heap_39 = hd.heap_39 := by
  k_fill
  exact ⟨rfl, rfl⟩
local macro_rules | `(tactic| k_room) => `(tactic| ktr_room)
local macro_rules | `(tactic| walk_at "exec For Name Call cons nil") => `(tactic| (k_here; (rename Fr _ _ _ _ => lF'); (with_unfolding_all refine' For_invVF lF' ?k1 ?k2 ?_; (case k1 => exact rfl); (case k2 => exact rfl); k_whole)))
local macro_rules | `(tactic| walk_at "pyIter ref") => `(tactic| k_extra "pyIter ref")
local macro_rules | `(tactic| walk_at "InvEndN") => `(tactic| k_extra "InvEndN")
local macro_rules | `(tactic| walk_at "exec For Tuple Call") => `(tactic| k_extra "exec For Tuple Call")
section
variable (w : World) (mean : ExcName → Option Value) (mg mb : Str → Option Value) (news : List (Addr × Obj))

abbrev RetG (b : Bool) (h₀ : Heap) (L : Addr) (m : Str → Option Value) (news : List (Addr × Obj)) (s : Shared) (Q : Value → Shared → Prop) : Prop :=
  AllB s.gens ∧ ∀ (h' : Heap) (tk' : Nat) (gs' : Array GenState), AllB gs' → Fr h₀ L h' m → News h₀ L h' news → Q (.bool b) { s with heap := h', toks := tk', gens := gs' }
theorem newsR {h₀ h : Heap} {L : Addr} {big news : List (Addr × Obj)} (N : News h₀ L h (big ++ news)) : News h₀ L h news := fun p hp => N p (List.mem_append_right _ hp)
theorem allB_push {gs : Array GenState} {c : Code} (h : AllB gs) : AllB (gs.push (.fresh c)) := by
  intro y hy
  rcases Array.mem_push.mp hy with hy | rfl
  · exact h y hy
  · rfl
set_option maxHeartbeats 1500000 in
theorem check_spec (bs : List Bool) (t : Tok) : Spec w mean mg mb 115 8 120 news [.str (txtB bs) t] (RetG (okB bs 0)) := by
  dsimp only [Spec, RetG]
  intros
  rename_i hret
  obtain ⟨hBare, hret⟩ := hret
  k_with_none
  k_with "call ref" => ((k_dflt (refine' strip_spec w mean mg mb _ _ _ _ _ _ _ _ _ _ _ _ _ _ _ _ _ _ _ _ (by k_asm) (by k_asm) (by k_asm) (by k_asm) (by k_asm) (by exact rfl) (by ktr_room) (by ktr_units) ?_); intro t9 h9 tk9 F9 N9; (try dsimp only); (try k_fold)))
  k_with "exec For Tuple Call" => ((k_dflt (refine wpAny_For ?_)))
  refine wpAny_call ?_
  k_dflt cell_enter
  k_steps
  rename Fr _ _ _ _ => lF
  rename News _ _ _ _ => lN
  rename Top _ _ _ _ _ _ => lT
  rename Frag.In _ _ => lX
  refine wpAny_call ?_
  k_dflt (refine' code_gen lF lX lN lT ?k6 ?k7 ?k8 ?k9 ?kB ?_ ?c2 ?c3 ?c4 ?c5; (case k6 => k_is); (case k7 => k_is); (case k8 => ktr_room); (case k9 => exact BindsTo.of_eq rfl); (case c5 => decide); (case kB => exact locs rfl); (case c2 => exact rfl); (case c3 => exact rfl); (case c4 => exact rfl))
  k_whole
  intro C a h₁ tk₁ F₁ N₁ hnC hCe haE hCa hGen
  dsimp only
  refine wpAny_pyIter_gen hGen ?_
  have hLC : _ < C := hCe ▸ lF.ns.lt
  have hab := F₁.above
  have hLN : _ < h₁.objs.size := F₁.ns.lt
  have hn0 : ∀ p ∈ news, p.1 < h₁.objs.size ∧ p.1 ≠ C := fun p hp => by
    have h5 : p.1 < C := hCe ▸ Heap.lt_size (lN p hp).1
    exact ⟨Nat.lt_trans h5 hnC.lt, Nat.ne_of_lt h5⟩
  refine genLoop (depB bs) (okP bs) rfl (by ktr_room) rfl rfl rfl rfl (Nat.ne_of_gt (Nat.lt_trans hLC hCa)) (Nat.lt_of_lt_of_le (Nat.lt_succ_self a) (Nat.le_of_eq haE)) (Nat.ne_of_gt hCa) hLN (Nat.ne_of_gt hLC) (Nat.le_trans hab (Nat.le_of_lt hLC)) hn0 lT.nolimit
    (genStart (t := t9) ⟨rfl, rfl, rfl, rfl, rfl, rfl, rfl⟩ rfl rfl hCa haE (Nat.ne_of_gt hLC) (Nat.ne_of_gt (Nat.lt_trans hLC hCa)) hLN (txtB_low bs) (txtB_plain bs) hnC rfl hGen (enum_name F₁ lX lT (Nat.le_trans hab (Nat.le_of_lt hLC)) (by k_is) rfl rfl))
    (allB_push hBare) F₁ N₁ rfl (okP_zero bs) ?_ ?_
  · intro i c t u td m' h tk gs big hc hPi hBi F8 N8
    obtain ⟨hi, hch, hcc⟩ := txtB_get hc
    rw [hch] at F8
    clear hch hcc hc hLC hab hLN hn0 hnC hCe haE hCa hGen F₁ N₁ lF lN
    rcases Bool.eq_false_or_eq_true bs[i] with hb | hb
    · rw [hb] at F8
      simp only [chB, if_true] at F8
      k_steps
      exact GPost.next (by k_asm) (by k_asm) (fun p hp => hp) (by rw [depB_succ hi, hb, if_pos rfl]; rfl) (okP_up hi hb hPi)
    · rw [hb] at F8
      simp only [chB, if_false, Bool.false_eq_true] at F8
      k_steps
      · dsimp only
        unfold GPost
        dsimp only
        k_steps
        have hneg : depB bs i - 1 < 0 := by first | assumption | omega
        rw [← okP_out hi hb hPi hneg]
        exact hret _ _ _ hBi (by k_asm) (newsR (big := big) (by k_asm))
      · exact GPost.next (by k_asm) (by k_asm) (fun p hp => hp) (by rw [depB_succ hi, hb, if_neg Bool.false_ne_true]; rfl) (okP_dn hi hb hPi (by first | assumption | omega))
  · intro td m' h tk gs hPi F8 N8 hBg
    clear hLC hab hLN hn0 hnC hCe haE hCa hGen F₁ N₁ lF lN
    dsimp only
    k_steps
    rw [txtB_size] at hPi ⊢
    rw [← okP_end hPi]
    exact hret _ _ _ hBg (by k_asm) (by k_asm)
end
end Mine

namespace Mine
section
variable {prog : Program} {w : World} {A : Around} {E : Value → Shared → Prop} {s : Shared}
abbrev tMap (m₀ : Str → Option Value) (tv mv xv : Option Value) : Str → Option Value := fun y => if y = "turn" then tv else if y = "mask" then mv else if y = "text" then xv else m₀ y
theorem tMap_of {m₀ m' : Str → Option Value} {mv xv : Option Value} (hm : m' "mask" = mv) (ht : m' "text" = xv) (hr : ∀ z : Str, z ≠ "turn" → z ≠ "mask" → z ≠ "text" → m' z = m₀ z) : m' = tMap m₀ (m' "turn") mv xv := by
  funext y
  show m' y = if y = "turn" then m' "turn" else if y = "mask" then mv else if y = "text" then xv else m₀ y
  by_cases h1 : y = "turn"
  · rw [if_pos h1, h1]
  · rw [if_neg h1]
    by_cases h2 : y = "mask"
    · rw [if_pos h2, h2, hm]
    · rw [if_neg h2]
      by_cases h3 : y = "text"
      · rw [if_pos h3, h3, ht]
      · rw [if_neg h3]; exact hr y h1 h2 h3
def LPost (h₀ : Heap) (L : Addr) (m₀ : Str → Option Value) (P : Prop) (M : Int) (T : Str) (led : List (Addr × Obj)) (s₁ : Shared) (Rr : Value → Shared → Prop) (f : Flow) (s₃ : Shared) : Prop := match f with
  | .next | .cont => ∃ h' tk gs tv tm tt, s₃ = { s₁ with heap := h', toks := tk, gens := gs } ∧ AllB gs ∧ Fr h₀ L h' (tMap m₀ tv (some (.int M tm)) (some (.str T tt))) ∧ News h₀ L h' led ∧ P
  | .brk => False
  | .ret v => Rr v s₃
theorem LPost.next {h₀ : Heap} {L : Addr} {m₀ m' : Str → Option Value} {P : Prop} {M : Int} {T : Str} {led news' : List (Addr × Obj)} {s₁ : Shared} {Rr : Value → Shared → Prop} {h' : Heap} {tk : Nat} {gs : Array GenState} {tm tt : Tok}
    (hB : AllB gs) (F : Fr h₀ L h' m') (N : News h₀ L h' news') (hsub : ∀ p ∈ led, p ∈ news') (hm : m' "mask" = some (.int M tm)) (ht : m' "text" = some (.str T tt)) (hr : ∀ z : Str, z ≠ "turn" → z ≠ "mask" → z ≠ "text" → m' z = m₀ z) (hP : P) :
    LPost h₀ L m₀ P M T led s₁ Rr .next { s₁ with heap := h', toks := tk, gens := gs } := by
  refine ⟨h', tk, gs, m' "turn", tm, tt, rfl, hB, ?_, fun p hp => N p (hsub p hp), hP⟩
  have e := tMap_of hm ht hr
  rw [← e]; exact F

def JPost (h₀ : Heap) (L : Addr) (m₀ : Str → Option Value) (tv : Option Value) (mk : Int) (led : List (Addr × Obj)) (s₁ : Shared) (f : Flow) (s₃ : Shared) : Prop :=
  f = .next ∧ ∃ h' tk tm xv, s₃ = { s₁ with heap := h', toks := tk } ∧ Fr h₀ L h' (tMap m₀ tv (some (.int mk tm)) xv) ∧ News h₀ L h' led
theorem JPost.of {h₀ : Heap} {L : Addr} {m₀ m' : Str → Option Value} {tv : Option Value} {mk : Int} {led news' : List (Addr × Obj)} {s₁ : Shared} {h' : Heap} {tk : Nat} {tm : Tok}
    (F : Fr h₀ L h' m') (N : News h₀ L h' news') (hsub : ∀ p ∈ led, p ∈ news') (ht : m' "turn" = tv) (hm : m' "mask" = some (.int mk tm)) (hr : ∀ z : Str, z ≠ "turn" → z ≠ "mask" → z ≠ "text" → m' z = m₀ z) :
    JPost h₀ L m₀ tv mk led s₁ .next { s₁ with heap := h', toks := tk } :=
  ⟨rfl, h', tk, tm, m' "text", rfl, by rw [← ht, ← tMap_of hm rfl hr]; exact F, fun p hp => N p (hsub p hp)⟩
theorem if_join {t : Sem Flow} {h₀ hh : Heap} {L : Addr} {m₀ : Str → Option Value} {tv mv xv' : Option Value} (mk : Int) {led : List (Addr × Obj)} {Q : Flow → Shared → Prop}
    (F : Fr h₀ L hh (fun y => if y = "turn" then tv else if y = "mask" then mv else if y = "text" then xv' else m₀ y)) (N : News h₀ L hh led)
    (h : wpAny (model prog w) A t (JPost h₀ L m₀ tv mk led s) E s)
    (k : ∀ h' tk tm xv, Fr h₀ L h' (fun y => if y = "turn" then tv else if y = "mask" then some (.int mk tm) else if y = "text" then xv else m₀ y) → News h₀ L h' led → Q .next { s with heap := h', toks := tk }) : wpAny (model prog w) A t Q E s := by
  refine wpAny_mono h (fun f s₃ h₃ => ?_) fun _ _ e => e
  obtain ⟨rfl, h', tk, tm, xv, rfl, F, N⟩ := h₃
  exact k h' tk tm xv F N
theorem turnLoop {R : Result → Shared → Prop} {env : Env} {px : Pos} {body : List Stmt} {r : Addr} {t0 u0 v0 tm0 tt0 : Tok} {n : Nat} {m₀ : Str → Option Value} {h₀ : Heap} {news : List (Addr × Obj)} (M : Nat → Int) (T : Nat → Str) (P : Nat → Prop)
    (hh : A.handled = none) (hx : env.kindOf "turn" = some .local) (hp : (env.scope.kind == .class || (env.scope.kind == .module && env.locals != env.globals)) = false)
    (hr : IsRange s.heap r 0 (n : Int) 1 t0 u0 v0) (hsmall : Builtin.Range.small 0 (n : Int) 1 = true) (hsz : Builtin.Range.rangeSize 0 (n : Int) 1 = (n : Int)) (hB : AllB s.gens)
    (F : Fr h₀ env.locals s.heap m₀) (N : News h₀ env.locals s.heap news) (hm : m₀ "mask" = some (.int (M 0) tm0)) (ht : m₀ "text" = some (.str (T 0) tt0)) (hP : P 0)
    (turn : ∀ (i : Nat) (t tm tt : Tok) h tk gs (own : List (Addr × Obj)), i < n → P i → AllB gs → Fr h₀ env.locals h (fun y => if y = "turn" then some (.int (i : Int) t) else if y = "mask" then some (.int (M i) tm) else if y = "text" then some (.str (T i) tt) else m₀ y) → News h₀ env.locals h (own ++ news) →
      wpAny (model prog w) A (execs body env) (LPost h₀ env.locals m₀ (P (i + 1)) (M (i + 1)) (T (i + 1)) (own ++ news) { s with heap := h, toks := tk, gens := gs } (fun v s' => R (.ok (.ret v)) s')) (fun _ _ => False) { s with heap := h, toks := tk, gens := gs })
    (done : ∀ (tv : Option Value) (tm tt : Tok) h tk gs, P n → AllB gs → Fr h₀ env.locals h (fun y => if y = "turn" then tv else if y = "mask" then some (.int (M n) tm) else if y = "text" then some (.str (T n) tt) else m₀ y) → News h₀ env.locals h news → R (.ok .next) { s with heap := h, toks := tk, gens := gs }) :
    wpAny (model prog w) A (pyIter (.ref r)) (fun it s₂ => codeAny (model prog w) A (.forLoop (.Name "turn" px) it body [] env) R s₂) E s := by
  refine wpAny_pyIter_range hr hsmall ?_
  have hLs : env.locals < s.heap.objs.size := F.ns.lt
  have hIL : s.heap.objs.size ≠ env.locals := Nat.ne_of_gt hLs
  have e0 := tMap_of (m₀ := m₀) hm ht fun _ _ _ _ => rfl
  refine codeAny_forLoop (fun k s' => ∃ h' tk gs i tv tm tt, s' = { s with heap := h', toks := tk, gens := gs } ∧ IsRangeIter h' s.heap.objs.size ((i : Nat) : Int) ((n : Int) - (i : Nat)) 1 ∧ AllB gs ∧ Fr h₀ env.locals h' (tMap m₀ tv (some (.int (M i) tm)) (some (.str (T i) tt))) ∧ News h₀ env.locals h' news ∧ P i ∧ i ≤ n ∧ k = n + 1 - i) ?_ (n + 1)
    ⟨s.heap.push { cls := .type "range_iterator", data := .fields #[rawInt 0, rawInt (Builtin.Range.rangeSize 0 (n : Int) 1), rawInt 1] }, s.toks, s.gens, 0, m₀ "turn", tm0, tt0, rfl, by rw [hsz]; simpa using Heap.get?_push_size _ rfl, hB, e0 ▸ F.push _, fun p hp => ⟨Heap.get?_push_of_some _ (N p hp).1, (N p hp).2⟩, hP, Nat.zero_le _, rfl⟩
  rintro k s' ⟨h', tk, gs, i, tv, tm, tt, rfl, hit, hB', F', N', hPi, hi, rfl⟩
  have hnI : ∀ p ∈ news, p.1 ≠ s.heap.objs.size := fun p hp => Nat.ne_of_lt (Heap.lt_size (N p hp).1)
  have hI0 : h₀.get? s.heap.objs.size = none := Heap.get?_none_of_le (Nat.le_trans F.above (Nat.le_of_lt hLs))
  by_cases hlt : i < n
  · refine wpAny_pyNext_range_item hit (by omega) fun h₁ hit₁ hs₁ => ?_
    replace hs₁ : Heap.SameBut s.heap.objs.size h' h₁ := hs₁
    have F₁ : Fr h₀ env.locals h₁ (tMap m₀ tv (some (.int (M i) tm)) (some (.str (T i) tt))) := ⟨F'.ns.sameBut hs₁ (Ne.symm hIL), fun b o e => hs₁.extBut b o (Nat.ne_of_lt (Nat.lt_trans (Nat.lt_of_lt_of_le (Heap.lt_size e) F'.above) hLs)) (F'.keep b o e), F'.above⟩
    have N₁ : News h₀ env.locals h₁ news := fun p hp => ⟨hs₁.extBut _ _ (hnI p hp) (N' p hp).1, (N' p hp).2⟩
    refine wpAny_assign_Name (wpAny_storeName_local hx F₁.ns (fun h₂ hn₂ hs₂ => ?_) hp)
    replace hs₂ : Heap.SameBut env.locals h₁ h₂ := hs₂
    have F₂ := F₁.set hn₂ hs₂
    have em : (fun y : Str => if y = "turn" then some (Value.int ((i : Nat) : Int) tk) else tMap m₀ tv (some (.int (M i) tm)) (some (.str (T i) tt)) y) = tMap m₀ (some (Value.int ((i : Nat) : Int) tk)) (some (.int (M i) tm)) (some (.str (T i) tt)) := by
      funext y
      by_cases h1 : y = "turn"
      · rw [if_pos h1]; exact (if_pos h1).symm
      · rw [if_neg h1]; show (if y = "turn" then _ else _) = (if y = "turn" then _ else _); rw [if_neg h1, if_neg h1]
    rw [em] at F₂
    have N₂ : News h₀ env.locals h₂ ([(s.heap.objs.size, { cls := .type "range_iterator", dict := none, data := .fields #[rawInt (((i : Nat) : Int) + 1), rawInt ((n : Int) - (i : Nat) - 1), rawInt 1], slots := #[] })] ++ news) := fun p hp => by
      rcases List.mem_append.mp hp with hp | hp
      · rw [List.mem_singleton.mp hp]
        exact ⟨hs₂.extBut _ _ hIL hit₁, hIL, hI0⟩
      · exact ⟨hs₂.extBut _ _ (N₁ p hp).2.1 (N₁ p hp).1, (N₁ p hp).2⟩
    refine wpAny_mono (wpAny_noRaise (turn i tk tm tt h₂ _ gs _ hlt hPi hB' F₂ N₂)) (fun f s₃ hpost => ?_) fun _ _ e => e
    have nxt : ∀ f', (f' = Flow.next ∨ f' = Flow.cont) → LPost h₀ env.locals m₀ (P (i + 1)) (M (i + 1)) (T (i + 1)) ([(s.heap.objs.size, { cls := .type "range_iterator", dict := none, data := .fields #[rawInt (((i : Nat) : Int) + 1), rawInt ((n : Int) - (i : Nat) - 1), rawInt 1], slots := #[] })] ++ news) { s with heap := h₂, toks := tk + 1 + 1, gens := gs } (fun v s' => R (.ok (.ret v)) s') f' s₃ →
        ∃ mm, mm < n + 1 - i ∧ ∃ h' tk gs j tv tm tt, s₃ = { s with heap := h', toks := tk, gens := gs } ∧ IsRangeIter h' s.heap.objs.size ((j : Nat) : Int) ((n : Int) - (j : Nat)) 1 ∧ AllB gs ∧ Fr h₀ env.locals h' (tMap m₀ tv (some (.int (M j) tm)) (some (.str (T j) tt))) ∧ News h₀ env.locals h' news ∧ P j ∧ j ≤ n ∧ mm = n + 1 - j := by
      intro f' hf' hp'
      have hp'' : ∃ h' tk gs tv tm tt, s₃ = { s with heap := h', toks := tk, gens := gs } ∧ AllB gs ∧ Fr h₀ env.locals h' (tMap m₀ tv (some (.int (M (i + 1)) tm)) (some (.str (T (i + 1)) tt))) ∧ News h₀ env.locals h' ([(s.heap.objs.size, { cls := .type "range_iterator", dict := none, data := .fields #[rawInt (((i : Nat) : Int) + 1), rawInt ((n : Int) - (i : Nat) - 1), rawInt 1], slots := #[] })] ++ news) ∧ P (i + 1) := by
        rcases hf' with rfl | rfl <;> exact hp'
      obtain ⟨h₆, tk₆, gs₆, tv₆, tm₆, tt₆, rfl, hB₆, F₆, N₆, hP₆⟩ := hp''
      refine ⟨n + 1 - (i + 1), by omega, h₆, tk₆, gs₆, i + 1, tv₆, tm₆, tt₆, rfl, ?_, hB₆, F₆, fun p hp => N₆ p (List.mem_append_right _ hp), hP₆, hlt, rfl⟩
      have e1 : ((i + 1 : Nat) : Int) = (i : Int) + 1 := by push_cast; rfl
      have e2 : (n : Int) - ((i + 1 : Nat) : Int) = (n : Int) - (i : Int) - 1 := by push_cast; omega
      rw [e2, e1]
      exact (N₆ _ (.head _)).1
    cases f with
    | next => exact nxt _ (.inl rfl) hpost
    | cont => exact nxt _ (.inr rfl) hpost
    | brk => exact hpost.elim
    | ret v => exact hpost
  · have hin : i = n := by omega
    subst hin
    refine wpAny_pyNext_range_end hh hit (by omega) fun h₁ he₁ => wpAny_execs_nil ?_
    replace he₁ : Heap.ExtBut s.heap.objs.size h' h₁ := he₁
    refine done tv tm tt h₁ tk gs hPi hB' ⟨F'.ns.extBut he₁ (Ne.symm hIL), fun b o e => he₁ b o (Nat.ne_of_lt (Nat.lt_trans (Nat.lt_of_lt_of_le (Heap.lt_size e) F'.above) hLs)) (F'.keep b o e), F'.above⟩ fun p hp => ⟨he₁ _ _ (hnI p hp) (N' p hp).1, (N' p hp).2⟩
end
end Mine

namespace Mine
def Rw (p k d : Nat) : Int := (rowW p k).getD d 0
def cat (p : Nat) : Int := (rowW p p).getD 0 0
def shu (p k d : Nat) : Int := if 0 < d then Rw p k (d - 1) else 0
def unr (p : Nat) : Nat → Nat → Int → List Bool
  | 0, _, _ => []
  | k + 1, d, n => if n < shu p k d then false :: unr p k (d - 1) n else true :: unr p k (d + 1) (n - shu p k d)
def valB (bs : List Bool) : Int := bs.foldl (fun m b => 2 * m + (if b then 1 else 0)) 0
def altB : Nat → List Bool
  | 0 => []
  | k + 1 => true :: false :: altB k
def lastB (p : Nat) : List Bool := [false, false, false, true, false, false] ++ altB (p / 2 - 1)
def wordT (p : Nat) (n : Int) : List Bool := if n < cat p then unr p p 0 n else lastB p
def maskT (p : Nat) (n : Int) : Int := valB (wordT p n)
def Four (p : Nat) : Prop := p = 8 ∨ p = 12 ∨ p = 16 ∨ p = 20
def tailF (bs : List Bool) : Nat := (bs.reverse.takeWhile (fun b => !b)).length
def combT (p : Nat) : Int := (2 ^ (p + 1) : Int).fdiv 3

theorem Rw_get {p k d : Nat} : (rowW p k).getD d 0 = Rw p k d := rfl
theorem Rw_zero {p d : Nat} (h : d ≤ p) : Rw p 0 d = if d = 0 then 1 else 0 := by
  unfold Rw
  rw [rowW]
  cases d with
  | zero => rfl
  | succ d =>
    rw [if_neg (Nat.succ_ne_zero d), List.getD_cons_succ, List.getD_eq_getElem?_getD, List.getElem?_replicate, if_pos (by omega)]
    rfl
theorem Rw_succ {p k d : Nat} (h : d ≤ p) : Rw p (k + 1) d = (if 0 < d then Rw p k (d - 1) else 0) + (if d < p then Rw p k (d + 1) else 0) := by
  have e : (rangeKs 0 (p + 1))[d]? = some (d : Int) := by
    unfold rangeKs
    rw [List.getElem?_map, List.getElem?_range (by omega)]
    simp
  have e1 : Rw p (k + 1) d = cellF p (rowW p k) (d : Int) := by
    unfold Rw
    rw [rowW, rowNext, List.getD_eq_getElem?_getD, List.getElem?_map, e]
    rfl
  rw [e1, cellF]
  have e2 : ((d : Int) - 1).toNat = d - 1 := by omega
  have e3 : ((d : Int) + 1).toNat = d + 1 := by omega
  rw [e2, e3]
  have c1 : ((d : Int) > 0) ↔ 0 < d := by omega
  have c2 : ((d : Int) < (p : Int)) ↔ d < p := by omega
  simp only [c1, c2, Rw_get]
theorem Rw_nonneg {p : Nat} : ∀ (k d : Nat), d ≤ p → 0 ≤ Rw p k d
  | 0, d, h => by rw [Rw_zero h]; split <;> decide
  | k + 1, d, h => by
    rw [Rw_succ h]
    have h1 : 0 ≤ (if 0 < d then Rw p k (d - 1) else 0) := by
      split
      · exact Rw_nonneg k (d - 1) (by omega)
      · exact Int.le_refl _
    have h2 : 0 ≤ (if d < p then Rw p k (d + 1) else 0) := by
      split
      · exact Rw_nonneg k (d + 1) (by omega)
      · exact Int.le_refl _
    omega
theorem Rw_pos {p : Nat} (hp : 1 ≤ p) : ∀ (k d : Nat), d ≤ p → (0 < Rw p k d ↔ d ≤ k ∧ (k - d) % 2 = 0)
  | 0, d, h => by
    rw [Rw_zero h]
    split <;> rename_i h1
    · subst h1; simp
    · constructor
      · intro h2; exact absurd h2 (by decide)
      · intro h2; omega
  | k + 1, d, h => by
    rw [Rw_succ h]
    have a1 : 0 ≤ (if 0 < d then Rw p k (d - 1) else 0) := by
      split
      · exact Rw_nonneg k (d - 1) (by omega)
      · exact Int.le_refl _
    have a2 : 0 ≤ (if d < p then Rw p k (d + 1) else 0) := by
      split
      · exact Rw_nonneg k (d + 1) (by omega)
      · exact Int.le_refl _
    have b1 : 0 < (if 0 < d then Rw p k (d - 1) else 0) ↔ 0 < d ∧ d - 1 ≤ k ∧ (k - (d - 1)) % 2 = 0 := by
      split <;> rename_i h1
      · rw [Rw_pos hp k (d - 1) (by omega)]; simp [h1]
      · constructor
        · intro h2; exact absurd h2 (by decide)
        · intro h2; exact absurd h2.1 h1
    have b2 : 0 < (if d < p then Rw p k (d + 1) else 0) ↔ d < p ∧ d + 1 ≤ k ∧ (k - (d + 1)) % 2 = 0 := by
      split <;> rename_i h1
      · rw [Rw_pos hp k (d + 1) (by omega)]; simp [h1]
      · constructor
        · intro h2; exact absurd h2 (by decide)
        · intro h2; exact absurd h2.1 h1
    have key : (0 < (if 0 < d then Rw p k (d - 1) else 0) + (if d < p then Rw p k (d + 1) else 0)) ↔ (0 < (if 0 < d then Rw p k (d - 1) else 0) ∨ 0 < (if d < p then Rw p k (d + 1) else 0)) := by omega
    rw [key, b1, b2]
    omega
theorem unr_len (p : Nat) : ∀ (k d : Nat) (n : Int), (unr p k d n).length = k
  | 0, _, _ => rfl
  | k + 1, d, n => by
    rw [unr]
    split <;> rw [List.length_cons, unr_len p k]
theorem unr_lo {p k d : Nat} {n : Int} (h : n < shu p k d) : unr p (k + 1) d n = false :: unr p k (d - 1) n := by
  rw [unr, if_pos h]
theorem unr_hi {p k d : Nat} {n : Int} (h : ¬ n < shu p k d) : unr p (k + 1) d n = true :: unr p k (d + 1) (n - shu p k d) := by
  rw [unr, if_neg h]
theorem shu_pos {p k d : Nat} {n : Int} (h0 : 0 ≤ n) (h : n < shu p k d) : 0 < d ∧ shu p k d = Rw p k (d - 1) := by
  unfold shu at h ⊢
  split at h <;> rename_i h1
  · exact ⟨h1, if_pos h1⟩
  · omega
theorem up_lt {p k d : Nat} {n : Int} (hd : d ≤ p) (h : n < Rw p (k + 1) d) (h1 : ¬ n < shu p k d) : d < p ∧ n - shu p k d < Rw p k (d + 1) := by
  rw [Rw_succ hd] at h
  change n < shu p k d + _ at h
  split at h <;> rename_i h2
  · exact ⟨h2, by omega⟩
  · omega
theorem unr_ok {p : Nat} : ∀ (k d : Nat) (n : Int), d ≤ p → 0 ≤ n → n < Rw p k d → okB (unr p k d n) (d : Int) = true
  | 0, d, n, hd, h0, h1 => by
    rw [Rw_zero hd] at h1
    split at h1 <;> rename_i h2
    · subst h2; rfl
    · omega
  | k + 1, d, n, hd, h0, h1 => by
    by_cases h : n < shu p k d
    · obtain ⟨h2, h3⟩ := shu_pos h0 h
      rw [unr_lo h, okB, if_neg (by omega)]
      have := unr_ok k (d - 1) n (by omega) h0 (h3 ▸ h)
      rw [show (((d - 1 : Nat)) : Int) = (d : Int) - 1 by omega] at this
      exact this
    · obtain ⟨h2, h3⟩ := up_lt hd h1 h
      rw [unr_hi h, okB]
      have := unr_ok k (d + 1) (n - shu p k d) (by omega) (by omega) h3
      rw [show (((d + 1 : Nat)) : Int) = (d : Int) + 1 by omega] at this
      exact this
theorem ok_rot {s : List Bool} : ∀ (r : List Bool) (d : Int), okB r d = true → 1 ≤ d → okB (r ++ s) (d - 1) = false
  | [], d, h, hd => by
    rw [okB, beq_iff_eq] at h
    omega
  | true :: r, d, h, hd => by
    rw [okB] at h
    have := ok_rot (s := s) r (d + 1) h (by omega)
    rw [List.cons_append, okB, show d - 1 + 1 = d + 1 - 1 by omega]
    exact this
  | false :: r, d, h, hd => by
    rw [okB, if_neg (by omega)] at h
    rw [List.cons_append, okB]
    split <;> rename_i h1
    · rfl
    · exact ok_rot (s := s) r (d - 1) h (by omega)
def ks (p j : Nat) : List Int := (List.range' (p - j) j).map fun (i : Nat) => (i : Int)
theorem ks_all (p : Nat) : rangeKs 0 p = ks p p := by
  unfold rangeKs ks
  rw [Nat.sub_self, List.range_eq_range']
  refine List.map_congr_left fun i _ => ?_
  omega
theorem ks_succ {p j : Nat} (h : j + 1 ≤ p) : ks p (j + 1) = ((p - (j + 1) : Nat) : Int) :: ks p j := by
  unfold ks
  rw [List.range'_succ, List.map_cons, show p - (j + 1) + 1 = p - j by omega]
theorem row_fold {p : Nat} : ∀ (j d : Nat) (n m : Int), j ≤ p → 0 ≤ n → ((ks p j).foldl (stepRow p) (n, (d : Int), m)).2.2 = (unr p j d n).foldl (fun m b => 2 * m + (if b then 1 else 0)) m
  | 0, _, _, _, _, _ => rfl
  | j + 1, d, n, m, hj, h0 => by
    rw [ks_succ hj, List.foldl_cons]
    have e1 : ((p : Int) - 1 - ((p - (j + 1) : Nat) : Int)).toNat = j := by omega
    have e2 : ((d : Int) - 1).toNat = d - 1 := by omega
    have c1 : ((d : Int) > 0) ↔ 0 < d := by omega
    have es : stepRow p (n, (d : Int), m) ((p - (j + 1) : Nat) : Int) = if n < shu p j d then (n, (d : Int) - 1, 2 * m) else (n - shu p j d, (d : Int) + 1, 2 * m + 1) := by
      unfold stepRow
      dsimp only
      rw [e1, e2]
      simp only [c1, Rw_get]
      rfl
    rw [es]
    by_cases h : n < shu p j d
    · obtain ⟨h2, h3⟩ := shu_pos h0 h
      rw [if_pos h, unr_lo h, List.foldl_cons, show (d : Int) - 1 = ((d - 1 : Nat) : Int) by omega, row_fold j (d - 1) n _ (by omega) h0]
      simp
    · rw [if_neg h, unr_hi h, List.foldl_cons, show (d : Int) + 1 = ((d + 1 : Nat) : Int) by omega, row_fold j (d + 1) _ _ (by omega) (by omega)]
      simp
theorem place_fold {p : Nat} {bs : List Bool} : ∀ (j d : Nat) (n a : Int) (pre : List Bool), j ≤ p → d ≤ p → 0 ≤ n → n < Rw p j d → pre.length = p - j → bs = pre ++ unr p j d n → ((ks p j).foldl (stepPl p bs) (a, (d : Int))).1 = a + n
  | 0, d, n, a, pre, hj, hd, h0, h1, hl, hb => by
    rw [Rw_zero hd] at h1
    have : n = 0 := by split at h1 <;> omega
    show a = a + n
    omega
  | j + 1, d, n, a, pre, hj, hd, h0, h1, hl, hb => by
    rw [ks_succ hj, List.foldl_cons]
    have e1 : ((p : Int) - 1 - ((p - (j + 1) : Nat) : Int)).toNat = j := by omega
    have e2 : ((d : Int) - 1).toNat = d - 1 := by omega
    have e3 : (((p - (j + 1) : Nat) : Int)).toNat = pre.length := by omega
    have c1 : ((d : Int) > 0) ↔ 0 < d := by omega
    by_cases h : n < shu p j d
    · obtain ⟨h2, h3⟩ := shu_pos h0 h
      rw [unr_lo h] at hb
      have hg : bs.getD pre.length false = false := by rw [hb, List.getD_eq_getElem?_getD, List.getElem?_append_right (Nat.le_refl _), Nat.sub_self]; rfl
      have es : stepPl p bs (a, (d : Int)) ((p - (j + 1) : Nat) : Int) = (a, ((d - 1 : Nat) : Int)) := by
        unfold stepPl
        dsimp only
        rw [e3, hg]
        simp only [Bool.false_eq_true, false_and, if_false]
        rw [show ((d - 1 : Nat) : Int) = (d : Int) - 1 by omega]
      rw [es]
      exact place_fold j (d - 1) n a (pre ++ [false]) (by omega) (by omega) h0 (h3 ▸ h) (by rw [List.length_append, hl]; simp only [List.length_cons, List.length_nil]; omega) (by rw [hb]; simp)
    · obtain ⟨h2, h3⟩ := up_lt hd h1 h
      rw [unr_hi h] at hb
      have hg : bs.getD pre.length false = true := by rw [hb, List.getD_eq_getElem?_getD, List.getElem?_append_right (Nat.le_refl _), Nat.sub_self]; rfl
      have es : stepPl p bs (a, (d : Int)) ((p - (j + 1) : Nat) : Int) = (a + shu p j d, ((d + 1 : Nat) : Int)) := by
        unfold stepPl
        dsimp only
        rw [e1, e2, e3, hg]
        simp only [true_and, c1, if_true, Rw_get]
        unfold shu
        rw [show ((d + 1 : Nat) : Int) = (d : Int) + 1 by omega]
        split
        · rfl
        · rw [Int.add_zero]
      rw [es, place_fold j (d + 1) (n - shu p j d) (a + shu p j d) (pre ++ [true]) (by omega) (by omega) (by omega) h3 (by rw [List.length_append, hl]; simp only [List.length_cons, List.length_nil]; omega) (by rw [hb]; simp)]
      omega
end Mine

namespace Mine
theorem shu_nonneg {p k d : Nat} (h : d ≤ p) : 0 ≤ shu p k d := by
  unfold shu
  split
  · exact Rw_nonneg k (d - 1) (by omega)
  · exact Int.le_refl _
theorem Rw_split {p k d : Nat} (h : d < p) : Rw p (k + 1) d = shu p k d + Rw p k (d + 1) := by
  rw [Rw_succ (by omega), if_pos h]; rfl
theorem unr_zero {p : Nat} (hp : 1 ≤ p) : ∀ (j d : Nat), j + d ≤ p → 0 < Rw p j d → ∃ e, unr p j d 0 = List.replicate d false ++ altB e ∧ j = d + 2 * e
  | 0, d, hjd, h => by
    rw [Rw_zero (by omega)] at h
    split at h <;> rename_i h2
    · subst h2; exact ⟨0, rfl, rfl⟩
    · exact absurd h (by decide)
  | j + 1, d, hjd, h => by
    obtain ⟨h1, h2⟩ := (Rw_pos hp (j + 1) d (by omega)).mp h
    by_cases hd : 0 < d
    · have h3 : 0 < Rw p j (d - 1) := (Rw_pos hp j (d - 1) (by omega)).mpr (by omega)
      have h4 : (0 : Int) < shu p j d := by unfold shu; rw [if_pos hd]; exact h3
      obtain ⟨e, he, hj⟩ := unr_zero hp j (d - 1) (by omega) h3
      refine ⟨e, ?_, by omega⟩
      rw [unr_lo h4, he, ← List.cons_append, ← List.replicate_succ, show d - 1 + 1 = d by omega]
    · have hd0 : d = 0 := by omega
      subst hd0
      have h3 : 0 < Rw p j (0 + 1) := (Rw_pos hp j 1 (by omega)).mpr (by omega)
      obtain ⟨e, he, hj⟩ := unr_zero hp j 1 (by omega) h3
      refine ⟨e + 1, ?_, by omega⟩
      have h4 : shu p j 0 = 0 := rfl
      rw [unr_hi (by rw [h4]; decide), h4, show (0 : Int) - 0 = 0 from rfl, show 0 + 1 = 1 from rfl, he]
      rfl
theorem unr_last {p : Nat} (hp : 1 ≤ p) : ∀ (j d : Nat), j + d ≤ p → 0 < Rw p j d → ∃ a b, unr p j d (Rw p j d - 1) = List.replicate a true ++ List.replicate b false ∧ j = a + b ∧ b = a + d
  | 0, d, hjd, h => by
    rw [Rw_zero (by omega)] at h
    split at h <;> rename_i h2
    · subst h2; exact ⟨0, 0, rfl, rfl, rfl⟩
    · exact absurd h (by decide)
  | j + 1, d, hjd, h => by
    obtain ⟨h1, h2⟩ := (Rw_pos hp (j + 1) d (by omega)).mp h
    have hs := Rw_split (p := p) (k := j) (d := d) (by omega)
    have hn := shu_nonneg (p := p) (k := j) (d := d) (by omega)
    by_cases hup : 0 < Rw p j (d + 1)
    · obtain ⟨a, b, he, hj, hb⟩ := unr_last hp j (d + 1) (by omega) hup
      refine ⟨a + 1, b, ?_, by omega, by omega⟩
      rw [unr_hi (by omega), show Rw p (j + 1) d - 1 - shu p j d = Rw p j (d + 1) - 1 by omega, he, List.replicate_succ, List.cons_append]
    · have h0 := Rw_nonneg (p := p) j (d + 1) (by omega)
      have hnp : ¬ (d + 1 ≤ j ∧ (j - (d + 1)) % 2 = 0) := fun q => hup ((Rw_pos hp j (d + 1) (by omega)).mpr q)
      have hdj : d = j + 1 := by omega
      subst hdj
      have h3 : 0 < Rw p j (j + 1 - 1) := (Rw_pos hp j (j + 1 - 1) (by omega)).mpr (by omega)
      have hsh : shu p j (j + 1) = Rw p j (j + 1 - 1) := by unfold shu; rw [if_pos (by omega)]
      obtain ⟨a, b, he, hj, hb⟩ := unr_last hp j (j + 1 - 1) (by omega) h3
      refine ⟨a, b + 1, ?_, by omega, by omega⟩
      have ha : a = 0 := by omega
      subst ha
      rw [unr_lo (by omega), show Rw p (j + 1) (j + 1) - 1 = Rw p j (j + 1 - 1) - 1 by omega, he]
      rfl
theorem unr_next {p : Nat} (hp : 1 ≤ p) : ∀ (j d : Nat) (n : Int), j + d ≤ p → 0 ≤ n → n + 1 < Rw p j d → ∃ X a b, 1 ≤ a ∧ a ≤ b ∧ X.length + 1 + a + b = j ∧
    unr p j d n = X ++ false :: (List.replicate a true ++ List.replicate b false) ∧ unr p j d (n + 1) = X ++ true :: (List.replicate (b - a + 2) false ++ altB (a - 1))
  | 0, d, n, hjd, h0, h => by
    rw [Rw_zero (by omega)] at h
    split at h <;> omega
  | j + 1, d, n, hjd, h0, h => by
    have hs := Rw_split (p := p) (k := j) (d := d) (by omega)
    by_cases h1 : n + 1 < shu p j d
    · obtain ⟨h2, h3⟩ := shu_pos (by omega) h1
      obtain ⟨X, a, b, ha, hab, hl, e1, e2⟩ := unr_next hp j (d - 1) n (by omega) h0 (h3 ▸ h1)
      refine ⟨false :: X, a, b, ha, hab, by rw [List.length_cons]; omega, ?_, ?_⟩
      · rw [unr_lo (by omega), e1, List.cons_append]
      · rw [unr_lo h1, e2, List.cons_append]
    · by_cases h2 : n < shu p j d
      · obtain ⟨h3, h4⟩ := shu_pos h0 h2
        have hn : n = Rw p j (d - 1) - 1 := by omega
        have hpos : 0 < Rw p j (d - 1) := by omega
        have hpos2 : 0 < Rw p j (d + 1) := by omega
        obtain ⟨a, b, he, hj, hb⟩ := unr_last hp j (d - 1) (by omega) hpos
        obtain ⟨e, he2, hj2⟩ := unr_zero hp j (d + 1) (by omega) hpos2
        refine ⟨[], a, b, by omega, by omega, by simp only [List.length_nil]; omega, ?_, ?_⟩
        · rw [unr_lo h2, hn, he]; rfl
        · rw [unr_hi h1, show n + 1 - shu p j d = 0 by omega, he2, show b - a + 2 = d + 1 by omega, show a - 1 = e by omega]; rfl
      · obtain ⟨X, a, b, ha, hab, hl, e1, e2⟩ := unr_next hp j (d + 1) (n - shu p j d) (by omega) (by omega) (by omega)
        refine ⟨true :: X, a, b, ha, hab, by rw [List.length_cons]; omega, ?_, ?_⟩
        · rw [unr_hi h2, e1, List.cons_append]
        · rw [unr_hi h1, show n + 1 - shu p j d = n - shu p j d + 1 by omega, e2, List.cons_append]
theorem tailF_eq (Y : List Bool) (a b : Nat) (ha : 1 ≤ a) : tailF (Y ++ (List.replicate a true ++ List.replicate b false)) = b := by
  unfold tailF
  rw [List.reverse_append, List.reverse_append, List.reverse_replicate, List.reverse_replicate]
  obtain ⟨a', rfl⟩ : ∃ a', a = a' + 1 := ⟨a - 1, by omega⟩
  rw [List.replicate_succ]
  induction b with
  | zero => rfl
  | succ b ih =>
    rw [List.replicate_succ, List.cons_append, List.cons_append, List.takeWhile_cons]
    simp only [Bool.not_false, if_true, List.length_cons]
    rw [ih]
theorem valB_from (bs : List Bool) : ∀ m : Int, bs.foldl (fun m b => 2 * m + (if b then 1 else 0)) m = m * 2 ^ bs.length + valB bs := by
  induction bs with
  | nil => intro m; simp [valB]
  | cons b r ih =>
    intro m
    unfold valB
    rw [List.foldl_cons, List.foldl_cons, ih, ih (2 * 0 + _), List.length_cons, Int.pow_succ]
    rw [Int.add_mul, Int.add_mul]
    have : m * (2 ^ r.length * 2) = 2 * m * 2 ^ r.length := by
      rw [← Int.mul_assoc, Int.mul_comm (m * 2 ^ r.length) 2, Int.mul_assoc 2 m]
    rw [this, Int.mul_zero, Int.zero_mul, Int.zero_add, Int.add_assoc]
theorem valB_append (a b : List Bool) : valB (a ++ b) = valB a * 2 ^ b.length + valB b := by
  conv => lhs; unfold valB
  rw [List.foldl_append, valB_from]
  rfl
theorem valB_nonneg (bs : List Bool) : 0 ≤ valB bs := by
  induction bs with
  | nil => decide
  | cons b r ih =>
    rw [← List.singleton_append, valB_append]
    have h1 : 0 ≤ valB [b] := by cases b <;> decide
    have h2 : (0 : Int) ≤ 2 ^ r.length := Int.pow_nonneg (by decide)
    have := Int.mul_nonneg h1 h2
    omega
theorem valB_lt (bs : List Bool) : valB bs < 2 ^ bs.length := by
  induction bs with
  | nil => decide
  | cons b r ih =>
    rw [← List.singleton_append, valB_append]
    have h2 : (0 : Int) < 2 ^ r.length := Int.pow_pos (by decide)
    have h1 : valB [b] ≤ 1 := by cases b <;> decide
    have h3 : valB [b] * 2 ^ r.length ≤ 1 * 2 ^ r.length := Int.mul_le_mul_of_nonneg_right h1 (by omega)
    rw [List.length_append, show ([b] : List Bool).length = 1 from rfl, Nat.add_comm 1, Int.pow_succ]
    omega
end Mine

namespace Mine
theorem and_hi (K M x y : Nat) (hx : x < 2 ^ K) (hy : y < 2 ^ K) : (2 ^ K * M + x) &&& (2 ^ K * M + y) = 2 ^ K * M + (x &&& y) := by
  refine Nat.eq_of_testBit_eq fun i => ?_
  rw [Nat.testBit_and, Nat.testBit_two_pow_mul_add _ hx, Nat.testBit_two_pow_mul_add _ hy, Nat.testBit_two_pow_mul_add _ (Nat.lt_of_le_of_lt Nat.and_le_left hx)]
  split
  · rw [Nat.testBit_and]
  · rw [Bool.and_self]
theorem and_lo (K M x y : Nat) (hx : x < 2 ^ K) (hy : y < 2 ^ K) : x &&& (2 ^ K * M + y) = x &&& y := by
  refine Nat.eq_of_testBit_eq fun i => ?_
  rw [Nat.testBit_and, Nat.testBit_and, Nat.testBit_two_pow_mul_add _ hy]
  split
  · rfl
  · rename_i h
    have : x.testBit i = false := Nat.testBit_lt_two_pow (Nat.lt_of_lt_of_le hx (Nat.pow_le_pow_right (by decide) (by omega)))
    rw [this]; rfl
theorem lowI_nat {m : Nat} (h : 0 < m) : lowI (m : Int) = (m : Int) - ((m &&& (m - 1) : Nat) : Int) := by
  unfold lowI
  rw [bitAnd_pn (by omega) (by omega)]
  have e : (Builtin.bitNot (-(m : Int))).toNat = m - 1 := by unfold Builtin.bitNot; omega
  rw [e, Int.toNat_natCast]
theorem low_hi (K M T : Nat) (h0 : 0 < T) (hT : T < 2 ^ K) : lowI ((2 ^ K * M + T : Nat) : Int) = lowI (T : Int) := by
  rw [lowI_nat (by omega), lowI_nat h0, show 2 ^ K * M + T - 1 = 2 ^ K * M + (T - 1) by omega, and_hi K M T (T - 1) hT (by omega)]
  omega
theorem tot_hi (K M T : Nat) (h0 : 0 < T) (hT : T < 2 ^ K) : totI ((2 ^ K * M + T : Nat) : Int) = ((2 ^ K * M : Nat) : Int) + totI (T : Int) := by
  unfold totI
  rw [low_hi K M T h0 hT]
  omega
theorem and_hiI (K M : Nat) (x y : Int) (hx0 : 0 ≤ x) (hy0 : 0 ≤ y) (hx : x < 2 ^ K) (hy : y < 2 ^ K) : Builtin.bitAnd (((2 ^ K * M : Nat) : Int) + x) (((2 ^ K * M : Nat) : Int) + y) = ((2 ^ K * M : Nat) : Int) + Builtin.bitAnd x y := by
  obtain ⟨x, rfl⟩ := Int.eq_ofNat_of_zero_le hx0
  obtain ⟨y, rfl⟩ := Int.eq_ofNat_of_zero_le hy0
  rw [bitAnd_pp (by omega) (by omega), bitAnd_pp (by omega) (by omega)]
  have e1 : (((2 ^ K * M : Nat) : Int) + (x : Int)).toNat = 2 ^ K * M + x := by omega
  have e2 : (((2 ^ K * M : Nat) : Int) + (y : Int)).toNat = 2 ^ K * M + y := by omega
  have k1 : x < 2 ^ K := by exact_mod_cast hx
  have k2 : y < 2 ^ K := by exact_mod_cast hy
  rw [e1, e2, and_hi K M x y k1 k2]
  simp
theorem and_loI (K M : Nat) (x y : Int) (hx0 : 0 ≤ x) (hy0 : 0 ≤ y) (hx : x < 2 ^ K) (hy : y < 2 ^ K) : Builtin.bitAnd x (((2 ^ K * M : Nat) : Int) + y) = Builtin.bitAnd x y := by
  obtain ⟨x, rfl⟩ := Int.eq_ofNat_of_zero_le hx0
  obtain ⟨y, rfl⟩ := Int.eq_ofNat_of_zero_le hy0
  rw [bitAnd_pp (by omega) (by omega), bitAnd_pp (by omega) (by omega)]
  have e2 : (((2 ^ K * M : Nat) : Int) + (y : Int)).toNat = 2 ^ K * M + y := by omega
  have k1 : x < 2 ^ K := by exact_mod_cast hx
  have k2 : y < 2 ^ K := by exact_mod_cast hy
  rw [e2, Int.toNat_natCast, Int.toNat_natCast, and_lo K M x y k1 k2]
theorem dif_hi (K M T : Nat) (h0 : 0 < T) (hT : T < 2 ^ K) (s0 : 0 ≤ totI (T : Int)) (s1 : totI (T : Int) < 2 ^ K) : difI ((2 ^ K * M + T : Nat) : Int) = difI (T : Int) := by
  unfold difI Builtin.bitXor
  rw [tot_hi K M T h0 hT, bitOr_and, bitOr_and, show ((2 ^ K * M + T : Nat) : Int) = ((2 ^ K * M : Nat) : Int) + (T : Int) by omega,
    and_hiI K M (T : Int) (totI T) (by omega) s0 (by exact_mod_cast hT) s1]
  omega
theorem step_hi (K M T : Nat) (h0 : 0 < T) (hT : T < 2 ^ K) (s0 : 0 ≤ totI (T : Int)) (s1 : totI (T : Int) < 2 ^ K) : stepI ((2 ^ K * M + T : Nat) : Int) = stepI (T : Int) := by
  unfold stepI
  rw [dif_hi K M T h0 hT s0 s1, low_hi K M T h0 hT]
theorem next_hi (K M T : Nat) (b c : Int) (h0 : 0 < T) (hT : T < 2 ^ K) (s0 : 0 ≤ totI (T : Int)) (s1 : totI (T : Int) < 2 ^ K)
    (z0 : 0 ≤ Builtin.bitAnd (stepI (T : Int) * (-(belI (T : Int) b)) - 1) c) (z1 : Builtin.bitAnd (stepI (T : Int) * (-(belI (T : Int) b)) - 1) c < 2 ^ K) :
    nextI ((2 ^ K * M + T : Nat) : Int) b c = ((2 ^ K * M : Nat) : Int) + nextI (T : Int) b c := by
  have eb : belI ((2 ^ K * M + T : Nat) : Int) b = belI (T : Int) b := by unfold belI; rw [dif_hi K M T h0 hT s0 s1]
  unfold nextI
  rw [eb, step_hi K M T h0 hT s0 s1, tot_hi K M T h0 hT, bitOr_and, bitOr_and, and_loI K M _ (totI T) z0 s0 z1 s1]
  omega
def comb0 (p : Nat) : Int := (2 ^ (p + 1) : Int).fdiv 3
def tailW (a b : Nat) : List Bool := List.replicate a true ++ List.replicate b false
def goodT (p a b : Nat) : Bool :=
  let T := valB (tailW a b)
  decide (0 < T) && decide (T < 2 ^ (a + b + 1)) && decide (0 ≤ totI T) && decide (totI T < 2 ^ (a + b + 1)) &&
  decide (0 ≤ Builtin.bitAnd (stepI T * (-(belI T b)) - 1) (comb0 p)) && decide (Builtin.bitAnd (stepI T * (-(belI T b)) - 1) (comb0 p) < 2 ^ (a + b + 1)) &&
  decide (nextI T b (comb0 p) = valB (true :: (List.replicate (b - a + 2) false ++ altB (a - 1)))) &&
  decide (lowI T ≠ 0) && decide (-(2 ^ 30) < lowI T) && decide (lowI T < 2 ^ 30) && decide (-(2 ^ 62) < stepI T) && decide (stepI T < 2 ^ 62)
def goodL (p h : Nat) : Bool :=
  let T := valB (tailW h h)
  decide (nextI T h (comb0 p) = valB (lastB p)) && decide (lowI T ≠ 0) && decide (-(2 ^ 30) < lowI T) && decide (lowI T < 2 ^ 30) && decide (-(2 ^ 62) < stepI T) && decide (stepI T < 2 ^ 62)
theorem all_goodT : ([8, 12, 16, 20] : List Nat).all (fun p => (List.range 10).all fun a => (List.range 20).all fun b => !(decide (1 ≤ a) && decide (a ≤ b) && decide (a + b + 1 ≤ p)) || goodT p a b) = true := by decide +kernel
theorem all_goodL : ([8, 12, 16, 20] : List Nat).all (fun p => goodL p (p / 2)) = true := by decide +kernel
theorem goodT_of {p a b : Nat} (hp : Four p) (h1 : 1 ≤ a) (h2 : a ≤ b) (h3 : a + b + 1 ≤ p) : goodT p a b = true := by
  have hm : p ∈ ([8, 12, 16, 20] : List Nat) := by rcases hp with rfl | rfl | rfl | rfl <;> decide
  have hp20 : p ≤ 20 := by rcases hp with rfl | rfl | rfl | rfl <;> decide
  have k1 := List.all_eq_true.mp all_goodT p hm
  have k2 := List.all_eq_true.mp k1 a (List.mem_range.mpr (by omega))
  have k3 := List.all_eq_true.mp k2 b (List.mem_range.mpr (by omega))
  rw [show decide (1 ≤ a) = true by simpa using h1, show decide (a ≤ b) = true by simpa using h2, show decide (a + b + 1 ≤ p) = true by simpa using h3] at k3
  simpa using k3
theorem goodL_of {p : Nat} (hp : Four p) : goodL p (p / 2) = true := by
  have hm : p ∈ ([8, 12, 16, 20] : List Nat) := by rcases hp with rfl | rfl | rfl | rfl <;> decide
  exact List.all_eq_true.mp all_goodL p hm
end Mine

namespace Mine
theorem Four.one {p : Nat} (h : Four p) : 1 ≤ p := by rcases h with rfl | rfl | rfl | rfl <;> decide
theorem wordT_lt {p : Nat} {n : Int} (h : n < cat p) : wordT p n = unr p p 0 n := if_pos h
theorem wordT_last (p : Nat) : wordT p (cat p) = lastB p := if_neg (Int.lt_irrefl _)
theorem cat_eq (p : Nat) : cat p = Rw p p 0 := rfl
theorem row_eq {p : Nat} {n : Int} (hp : Four p) (h0 : 0 ≤ n) (h1 : n < cat p) : ((rangeKs 0 p).foldl (stepRow p) (n, 0, 0)).2.2 = maskT p n := by
  rw [ks_all, maskT, wordT_lt h1]
  exact row_fold p 0 n 0 (Nat.le_refl p) h0
theorem word_len {p : Nat} {n : Int} (hp : Four p) (h0 : 0 ≤ n) (h1 : n < cat p) : (wordT p n).length = p := by rw [wordT_lt h1, unr_len]
theorem word_ok {p : Nat} {n : Int} (hp : Four p) (h0 : 0 ≤ n) (h1 : n < cat p) : okB (wordT p n) 0 = true := by
  rw [wordT_lt h1]
  exact unr_ok p 0 n (Nat.zero_le p) h0 h1
theorem word_head {p : Nat} {n : Int} (hp : Four p) (h0 : 0 ≤ n) (h1 : n < cat p) : ∃ r, wordT p n = true :: r := by
  obtain ⟨q, hq⟩ : ∃ q, p = q + 1 := ⟨p - 1, by have := hp.one; omega⟩
  rw [wordT_lt h1]
  have h2 : shu p q 0 = 0 := rfl
  refine ⟨unr p q (0 + 1) (n - shu p q 0), ?_⟩
  have h3 : unr p (q + 1) 0 n = true :: unr p q (0 + 1) (n - shu p q 0) := unr_hi (by rw [h2]; omega)
  rw [← hq] at h3
  exact h3
theorem word_rot {p : Nat} {n : Int} (hp : Four p) (h0 : 0 ≤ n) (h1 : n < cat p) : okB ((wordT p n).tail ++ (wordT p n).take 1) 0 = false := by
  obtain ⟨r, hr⟩ := word_head hp h0 h1
  have h2 := word_ok hp h0 h1
  rw [hr, okB] at h2
  rw [hr]
  exact ok_rot r (0 + 1) h2 (by decide)
theorem last_ok {p : Nat} (hp : Four p) : okB (wordT p (cat p)) 0 = false := by
  rw [wordT_last]
  rcases hp with rfl | rfl | rfl | rfl <;> decide +kernel
theorem last_mask {p : Nat} (hp : Four p) : maskT p (cat p) = 2 ^ ((p : Int)).toNat + (combT p).fdiv 4 := by
  rw [maskT, wordT_last]
  rcases hp with rfl | rfl | rfl | rfl <;> decide +kernel
theorem place_eq {p : Nat} {n : Int} (hp : Four p) (h0 : 0 ≤ n) (h1 : n < cat p) : ((rangeKs 0 p).foldl (stepPl p (wordT p n)) (0, 0)).1 = n := by
  rw [ks_all]
  have := place_fold (bs := wordT p n) p 0 n 0 [] (Nat.le_refl p) (Nat.zero_le p) h0 h1 (by simp) (by rw [wordT_lt h1]; rfl)
  rw [Int.zero_add] at this
  exact this
theorem valB_false (w : List Bool) : valB (false :: w) = valB w := by
  rw [← List.singleton_append, valB_append, show valB [false] = 0 from rfl, Int.zero_mul, Int.zero_add]
theorem tail_len (a b : Nat) : (tailW a b).length = a + b := by simp [tailW]
theorem mask_form (X w : List Bool) (c : Bool) : valB (X ++ c :: w) = 2 ^ (w.length + 1) * valB X + valB (c :: w) := by
  rw [valB_append, Int.mul_comm, List.length_cons]
theorem next_all {p : Nat} {n : Int} (hp : Four p) (h0 : 0 ≤ n) (h1 : n < cat p) :
    nextI (maskT p n) (tailF (wordT p n)) (combT p) = maskT p (n + 1) ∧ lowI (maskT p n) ≠ 0 ∧ -(2 ^ 30) < lowI (maskT p n) ∧ lowI (maskT p n) < 2 ^ 30 ∧ -(2 ^ 62) < stepI (maskT p n) ∧ stepI (maskT p n) < 2 ^ 62 ∧ tailF (wordT p n) < 50 := by
  have hp1 := hp.one
  have hp20 : p ≤ 20 := by rcases hp with rfl | rfl | rfl | rfl <;> decide
  by_cases hn : n + 1 < cat p
  · obtain ⟨X, a, b, ha, hab, hl, e1, e2⟩ := unr_next hp1 p 0 n (Nat.le_refl p) h0 hn
    have hg := goodT_of hp ha hab (by omega)
    unfold goodT at hg
    simp only [Bool.and_eq_true, decide_eq_true_eq] at hg
    obtain ⟨⟨⟨⟨⟨⟨⟨⟨⟨⟨⟨g1, g2⟩, g3⟩, g4⟩, g5⟩, g6⟩, g7⟩, g8⟩, g9⟩, g10⟩, g11⟩, g12⟩ := hg
    have et : tailF (wordT p n) = b := by
      rw [wordT_lt h1, e1, show X ++ false :: (List.replicate a true ++ List.replicate b false) = (X ++ [false]) ++ (List.replicate a true ++ List.replicate b false) by simp]
      exact tailF_eq _ a b ha
    obtain ⟨M, hM⟩ := Int.eq_ofNat_of_zero_le (valB_nonneg X)
    obtain ⟨T, hT⟩ := Int.eq_ofNat_of_zero_le (valB_nonneg (tailW a b))
    have em : maskT p n = ((2 ^ (a + b + 1) * M + T : Nat) : Int) := by
      rw [maskT, wordT_lt h1, e1]
      rw [show (X ++ false :: (List.replicate a true ++ List.replicate b false)) = X ++ false :: tailW a b from rfl, mask_form, valB_false, tail_len, hM, hT]
      push_cast
      rfl
    have en : maskT p (n + 1) = 2 ^ (a + b + 1) * valB X + valB (true :: (List.replicate (b - a + 2) false ++ altB (a - 1))) := by
      have hla : (altB (a - 1)).length = 2 * (a - 1) := by
        have : ∀ k, (altB k).length = 2 * k := by
          intro k
          induction k with
          | zero => rfl
          | succ k ih => rw [altB, List.length_cons, List.length_cons, ih]; omega
        exact this _
      rw [maskT, wordT_lt hn, e2, mask_form, List.length_append, List.length_replicate, hla, show b - a + 2 + 2 * (a - 1) + 1 = a + b + 1 by omega]
    rw [hT] at g1 g2 g3 g4 g5 g6 g7 g8 g9 g10 g11 g12
    have t0 : 0 < T := by exact_mod_cast g1
    have t1 : T < 2 ^ (a + b + 1) := by exact_mod_cast g2
    refine ⟨?_, ?_⟩
    · rw [em, et, en, hM]
      show nextI _ _ (comb0 p) = _
      rw [next_hi (a + b + 1) M T b (comb0 p) t0 t1 g3 g4 g5 g6, g7]
      push_cast
      rfl
    · rw [em, low_hi (a + b + 1) M T t0 t1, step_hi (a + b + 1) M T t0 t1 g3 g4, et]
      exact ⟨g8, g9, g10, g11, g12, by omega⟩
  · have hn' : n = Rw p p 0 - 1 := by
      have := cat_eq p
      omega
    have hpos : 0 < Rw p p 0 := by
      have := cat_eq p
      omega
    obtain ⟨a, b, e, hj, hb⟩ := unr_last hp1 p 0 (Nat.le_refl p) hpos
    have hg := goodL_of hp
    unfold goodL at hg
    simp only [Bool.and_eq_true, decide_eq_true_eq] at hg
    have ha2 : a = p / 2 := by omega
    have hb2 : b = p / 2 := by omega
    obtain ⟨⟨⟨⟨⟨g7, g8⟩, g9⟩, g10⟩, g11⟩, g12⟩ := hg
    have ew : wordT p n = tailW (p / 2) (p / 2) := by rw [wordT_lt h1, hn', e, ha2, hb2]; rfl
    have et : tailF (wordT p n) = p / 2 := by
      rw [ew]
      exact tailF_eq [] (p / 2) (p / 2) (by omega)
    have em : maskT p n = valB (tailW (p / 2) (p / 2)) := by rw [maskT, ew]
    have en : maskT p (n + 1) = valB (lastB p) := by
      rw [maskT, show n + 1 = cat p by have := cat_eq p; omega, wordT_last]
    rw [em, en, et]
    exact ⟨g7, g8, g9, g10, g11, g12, by omega⟩
theorem next_eq {p : Nat} {n : Int} (hp : Four p) (h0 : 0 ≤ n) (h1 : n < cat p) : nextI (maskT p n) (tailF (wordT p n)) (combT p) = maskT p (n + 1) := (next_all hp h0 h1).1
theorem next_side {p : Nat} {n : Int} (hp : Four p) (h0 : 0 ≤ n) (h1 : n < cat p) : lowI (maskT p n) ≠ 0 ∧ -(2 ^ 30) < lowI (maskT p n) ∧ lowI (maskT p n) < 2 ^ 30 ∧ -(2 ^ 62) < stepI (maskT p n) ∧ stepI (maskT p n) < 2 ^ 62 ∧ tailF (wordT p n) < 50 := (next_all hp h0 h1).2
end Mine

namespace Mine
def nib (d : Nat) : List Bool := [d / 8 % 2 == 1, d / 4 % 2 == 1, d / 2 % 2 == 1, d % 2 == 1]
def bits (ds : List Nat) : List Bool := (ds.map nib).flatten
def valN (ds : List Nat) : Nat := ds.foldl (fun m d => 16 * m + d) 0
theorem nib_of : ∀ b1 b2 b3 b4 : Bool, nib (8 * b1.toNat + 4 * b2.toNat + 2 * b3.toNat + b4.toNat) = [b1, b2, b3, b4] := by decide
theorem digits_of : ∀ (q : Nat) (bs : List Bool), bs.length = 4 * q → ∃ ds : List Nat, ds.length = q ∧ (∀ d ∈ ds, d < 16) ∧ bs = bits ds
  | 0, bs, h => ⟨[], rfl, by simp, by have : bs = [] := List.eq_nil_of_length_eq_zero (by omega); rw [this]; rfl⟩
  | q + 1, bs, h => by
    match bs, h with
    | b1 :: b2 :: b3 :: b4 :: r, h =>
      obtain ⟨ds, h1, h2, h3⟩ := digits_of q r (by simp only [List.length_cons] at h; omega)
      refine ⟨(8 * b1.toNat + 4 * b2.toNat + 2 * b3.toNat + b4.toNat) :: ds, by rw [List.length_cons, h1], ?_, ?_⟩
      · intro d hd
        rcases List.mem_cons.mp hd with rfl | hd
        · cases b1 <;> cases b2 <;> cases b3 <;> cases b4 <;> decide
        · exact h2 d hd
      · unfold bits
        rw [List.map_cons, List.flatten_cons, nib_of, h3]
        rfl
    | [], h => simp at h
    | [_], h => simp only [List.length_cons, List.length_nil] at h; omega
    | [_, _], h => simp only [List.length_cons, List.length_nil] at h; omega
    | [_, _, _], h => simp only [List.length_cons, List.length_nil] at h; omega
theorem bits_snoc (ds : List Nat) (x : Nat) : bits (ds ++ [x]) = bits ds ++ nib x := by simp [bits]
theorem valN_snoc (ds : List Nat) (x : Nat) : valN (ds ++ [x]) = 16 * valN ds + x := by simp [valN]
theorem nib_val : ∀ x : Nat, x < 16 → valB (nib x) = (x : Int) := by decide
theorem snoc_ind {α : Type} {P : List α → Prop} (h0 : P []) (h1 : ∀ l x, P l → P (l ++ [x])) (l : List α) : P l := by
  rw [← List.reverse_reverse l]
  induction l.reverse with
  | nil => exact h0
  | cons x r ih => rw [List.reverse_cons]; exact h1 _ _ ih
theorem val_bits (ds : List Nat) : (∀ d ∈ ds, d < 16) → valB (bits ds) = (valN ds : Int) := by
  refine snoc_ind (P := fun ds => (∀ d ∈ ds, d < 16) → valB (bits ds) = (valN ds : Int)) (fun _ => rfl) (fun l x ih h => ?_) ds
  rw [bits_snoc, valN_snoc, valB_append, ih fun d hd => h d (List.mem_append_left _ hd), nib_val x (h x (by simp)), show (nib x).length = 4 from rfl]
  push_cast
  omega
theorem valN_pos (ds : List Nat) (x : Nat) (hx : x ≠ 0) : 0 < valN (x :: ds) := by
  refine snoc_ind (P := fun ds => 0 < valN (x :: ds)) ?_ (fun l y ih => ?_) ds
  · show 0 < 16 * 0 + x; omega
  · rw [← List.cons_append, valN_snoc]; omega
theorem apI_digits (x : Nat) (hx : x ≠ 0) (ds : List Nat) : ∀ acc : Array UInt8, (∀ d ∈ x :: ds, d < 16) → apI (valN (x :: ds)) acc = ((x :: ds).map apB).toArray ++ acc := by
  refine snoc_ind (P := fun ds => ∀ acc : Array UInt8, (∀ d ∈ x :: ds, d < 16) → apI (valN (x :: ds)) acc = ((x :: ds).map apB).toArray ++ acc) (fun acc h => ?_) (fun l y ih acc h => ?_) ds
  · have hv : valN [x] = x := by show 16 * 0 + x = x; omega
    have hx16 : x < 16 := h x (by simp)
    rw [hv, apI, dif_neg hx, show x / 16 = 0 by omega, show x % 16 = x by omega, apI, dif_pos rfl]
    simp
  · have hv : valN (x :: (l ++ [y])) = 16 * valN (x :: l) + y := by rw [← List.cons_append, valN_snoc]
    have hp := valN_pos l x hx
    have hy16 : y < 16 := h y (by simp)
    rw [hv, apI, dif_neg (by omega), show (16 * valN (x :: l) + y) / 16 = valN (x :: l) by omega, show (16 * valN (x :: l) + y) % 16 = y by omega,
      ih _ fun d hd => h d (by rw [← List.cons_append]; exact List.mem_append_left _ hd)]
    simp
theorem txtB_append (a b : List Bool) : txtB (a ++ b) = txtB a ++ txtB b := by
  show (⟨_⟩ : Str) = ⟨_⟩
  simp [txtB]
theorem txtB_nil : txtB [] = Str.ofString "" := by decide +kernel
theorem lt4_nib : ∀ x : Nat, x < 16 → brk (65 + (x : Int)) 8 ++ (brk (65 + (x : Int)) 4 ++ (brk (65 + (x : Int)) 2 ++ brk (65 + (x : Int)) 1)) = txtB (nib x) := by decide +kernel
theorem lt4_eq (s : Str) (x : Nat) (h : x < 16) : lt4 s (65 + (x : Int)) = s ++ txtB (nib x) := by
  rw [← lt4_nib x h]
  show s ++ _ ++ _ ++ _ ++ _ = _
  rw [Str.append_assoc, Str.append_assoc, Str.append_assoc]
theorem lt_fold : ∀ (ds : List Nat) (s : Str), (∀ d ∈ ds, d < 16) → (ds.map fun (d : Nat) => 65 + (d : Int)).foldl lt4 s = s ++ txtB (bits ds)
  | [], s, _ => by
    show s = s ++ txtB []
    rw [txtB_nil]
    show s = (⟨s.cps ++ (Str.ofString "").cps⟩ : Str)
    have : (Str.ofString "").cps = #[] := by decide +kernel
    rw [this, Array.append_empty]
  | d :: r, s, h => by
    rw [List.map_cons, List.foldl_cons, lt4_eq s d (h d (List.mem_cons_self ..)), lt_fold r _ fun x hx => h x (List.mem_cons_of_mem _ hx), Str.append_assoc, ← txtB_append]
    rfl
theorem apB_nat : ∀ x : Nat, x < 16 → ((apB x).toNat : Int) = 65 + (x : Int) := by decide
theorem text_of (bs : List Bool) (q : Nat) (hq : bs.length = 4 * q) (hh : bs.take 4 ≠ [false, false, false, false]) (h1 : 1 ≤ q) :
    (KBw.bInts (apI (valB bs).toNat #[])).foldl lt4 (Str.ofString "") = txtB bs ∧ (apI (valB bs).toNat #[]).size = q ∧ 0 < valB bs := by
  obtain ⟨ds, hl, hd, rfl⟩ := digits_of q bs hq
  match ds, hl, hd with
  | x :: ds, hl, hd =>
    have hx : x ≠ 0 := by
      rintro rfl
      exact hh rfl
    rw [val_bits _ hd, Int.toNat_natCast, apI_digits x hx ds #[] hd]
    refine ⟨?_, ?_, ?_⟩
    · have e : KBw.bInts (((x :: ds).map apB).toArray ++ #[]) = (x :: ds).map fun (d : Nat) => 65 + (d : Int) := by
        unfold KBw.bInts
        rw [Array.append_empty, List.map_map]
        exact List.map_congr_left fun d hd' => apB_nat d (hd d hd')
      rw [e, lt_fold _ _ hd]
      have e0 : ∀ s : Str, Str.ofString "" ++ s = s := fun s => by
        show (⟨(Str.ofString "").cps ++ s.cps⟩ : Str) = s
        have : (Str.ofString "").cps = #[] := by decide +kernel
        rw [this, Array.empty_append]
      exact e0 _
    · simp [← hl]
    · have := valN_pos ds x hx
      exact_mod_cast this
  | [], hl, hd => simp at hl; omega
theorem text_all {p : Nat} {n : Int} (hp : Four p) (h0 : 0 ≤ n) (h1 : n ≤ cat p) :
    (KBw.bInts (apI (maskT p n).toNat #[])).foldl lt4 (Str.ofString "") = txtB (wordT p n) ∧ (apI (maskT p n).toNat #[]).size ≤ 100 ∧ 0 < maskT p n ∧ maskT p n < 2 ^ 24 := by
  have hp20 : p ≤ 20 := by rcases hp with rfl | rfl | rfl | rfl <;> decide
  have hp4 : p % 4 = 0 := by rcases hp with rfl | rfl | rfl | rfl <;> decide
  have hp1 := hp.one
  have key : ∃ q, (wordT p n).length = 4 * q ∧ (wordT p n).take 4 ≠ [false, false, false, false] ∧ 1 ≤ q ∧ q ≤ 6 := by
    by_cases h : n < cat p
    · obtain ⟨r, hr⟩ := word_head hp h0 h
      refine ⟨p / 4, by rw [word_len hp h0 h]; omega, ?_, by omega, by omega⟩
      rw [hr]
      intro q
      exact Bool.noConfusion (List.cons.inj q).1
    · have hn : n = cat p := by omega
      rw [hn, wordT_last]
      rcases hp with rfl | rfl | rfl | rfl
      · exact ⟨3, by decide, by decide, by decide, by decide⟩
      · exact ⟨4, by decide, by decide, by decide, by decide⟩
      · exact ⟨5, by decide, by decide, by decide, by decide⟩
      · exact ⟨6, by decide, by decide, by decide, by decide⟩
  obtain ⟨q, k1, k2, k3, k4⟩ := key
  obtain ⟨t1, t2, t3⟩ := text_of (wordT p n) q k1 k2 k3
  refine ⟨t1, by rw [maskT, t2]; omega, t3, ?_⟩
  have t4 := valB_lt (wordT p n)
  have t5 : (2 : Int) ^ (wordT p n).length ≤ 2 ^ 24 := by
    have : (2 : Nat) ^ (wordT p n).length ≤ 2 ^ 24 := Nat.pow_le_pow_right (by decide) (by omega)
    exact_mod_cast this
  show valB (wordT p n) < 2 ^ 24
  omega
theorem text_eq {p : Nat} {n : Int} (hp : Four p) (h0 : 0 ≤ n) (h1 : n ≤ cat p) : (KBw.bInts (apI (maskT p n).toNat #[])).foldl lt4 (Str.ofString "") = txtB (wordT p n) := (text_all hp h0 h1).1
theorem ap_size {p : Nat} {n : Int} (hp : Four p) (h0 : 0 ≤ n) (h1 : n ≤ cat p) : (apI (maskT p n).toNat #[]).size ≤ 100 := (text_all hp h0 h1).2.1
theorem mask_pos {p : Nat} {n : Int} (hp : Four p) (h0 : 0 ≤ n) (h1 : n ≤ cat p) : 0 < maskT p n ∧ maskT p n < 2 ^ 24 := (text_all hp h0 h1).2.2
end Mine

namespace Mine
theorem chB_eq (b : Bool) : chB b = txtB [b] := by cases b <;> decide +kernel
theorem slice_one (b : Bool) (r : List Bool) : Txt.slice (txtB (b :: r)) (some 1) none = txtB r := by
  have h := StrLaws.sliceText_from (x := txtB (b :: r)) (i := 1) ⟨by decide, by simp [txtB]; omega⟩
  refine Eq.trans (show Txt.slice (txtB (b :: r)) (some 1) none = StrLaws.sliceText (txtB (b :: r)) (some 1) none from rfl) (h.trans ?_)
  simp only [txtB, List.map_cons, List.length_cons, List.length_map]
  simp [List.take_of_length_le]
theorem rot_eq {bs : List Bool} (h : 0 < bs.length) : Txt.slice (txtB bs) (some 1) none ++ Txt.item (txtB bs) 0 = txtB (bs.tail ++ bs.take 1) := by
  match bs, h with
  | b :: r, h =>
    rw [slice_one, item_txt _ 0 (Int.le_refl 0) (by simp only [List.length_cons]; omega)]
    show txtB r ++ chB b = txtB (r ++ [b])
    rw [chB_eq, txtB_append]
theorem strip_goes (b : Bool) : (Str.ofString ")").cps.contains (if b then 40 else 41) = !b := by cases b <;> decide +kernel
theorem strip_eq (bs : List Bool) : ((txtB bs).length : Int) - ((Txt.rstripChars (txtB bs) (Str.ofString ")")).length : Int) = (tailF bs : Int) := by
  have e1 : Txt.rstripChars (txtB bs) (Str.ofString ")") = Builtin.Str.strSub (txtB bs) 0 ((txtB bs).length - tailF bs) := by
    unfold Txt.rstripChars
    rw [PyProof.Rows.stripBy_eq]
    show Builtin.Str.strSub (txtB bs) 0 ((txtB bs).length - (((txtB bs).cps.toList.drop 0).reverse.takeWhile _).length) = _
    have e2 : (((txtB bs).cps.toList.drop 0).reverse.takeWhile (Str.ofString ")").cps.contains).length = tailF bs := by
      unfold tailF txtB
      rw [List.drop_zero, ← List.map_reverse, List.takeWhile_map, List.length_map]
      congr 2
      funext b
      exact strip_goes b
    rw [e2]
  have hle : tailF bs ≤ bs.length := by
    unfold tailF
    have := (List.takeWhile_prefix (fun b => !b) (l := bs.reverse)).length_le
    rw [List.length_reverse] at this
    exact this
  have hl := txtB_len bs
  have e3 : (Builtin.Str.strSub (txtB bs) 0 ((txtB bs).length - tailF bs)).length = (txtB bs).length - tailF bs := by
    show ((txtB bs).cps.extract 0 ((txtB bs).length - tailF bs)).size = _
    rw [Array.size_extract]
    show min _ (txtB bs).length - 0 = _
    omega
  rw [e1, e3, hl]
  omega
end Mine

namespace Mine
theorem fill_j : PySem.Challenge.rw_xo0015_01 = PySem.Challenge.rw_xo0015_01 ∧ hd.heap_39 = hd.heap_39 := by
  k_fill
  exact ⟨rfl, rfl⟩
local macro_rules | `(tactic| k_room) => `(tactic| ktr_room)
local macro_rules | `(tactic| walk_at "exec For Name Call cons nil") => `(tactic| (k_here; (rename Fr _ _ _ _ => lF'); (with_unfolding_all refine' For_invVF lF' ?k1 ?k2 ?_; (case k1 => exact rfl); (case k2 => exact rfl); k_whole)))
local macro_rules | `(tactic| walk_at "pyIter ref") => `(tactic| k_extra "pyIter ref")
local macro_rules | `(tactic| walk_at "InvEndN") => `(tactic| k_extra "InvEndN")

theorem comb_eq (p : Nat) : ((2 : Int) ^ ((p : Int) + 1).toNat).fdiv 3 = combT p := by rw [show ((p : Int) + 1).toNat = p + 1 by omega]; rfl
theorem endT {c : ClaimW} {cl : Str → Option Addr} {mean : ExcName → Option Value} {args : List WData} {s₁ : Shared} {h : Heap} {gs : Array GenState} {tk : Nat} {L : Addr} {m : Str → Option Value}
    (hr : ∀ cls, c.raises args cls = false) (hp : c.post args (.bool true) args = true) (F : Fr s₁.heap L h m) (hB : AllB gs) : GoodWG c cl mean args s₁ (.ok (.ret (.bool true))) { s₁ with heap := h, toks := tk, gens := gs } :=
  ⟨.inl ⟨_, _, [], rfl, hr, ReadsW.bool true, hp, fun _ => ⟨List.nodup_nil, fun _ hm => nomatch hm⟩⟩, .of_keep F.keep, rfl, hB⟩
structure Blk (P : Prop) : Prop where
  get : P
theorem places_nat (X : Int) : ∃ p : Nat, Four p ∧ 20 - X.fmod 4 * 4 = (p : Int) := by
  have h1 : 0 ≤ X.fmod 4 := fmod_lo X (by decide)
  have h2 : X.fmod 4 < 4 := fmod_hi X (by decide)
  have h3 : X.fmod 4 = 0 ∨ X.fmod 4 = 1 ∨ X.fmod 4 = 2 ∨ X.fmod 4 = 3 := by omega
  rcases h3 with h | h | h | h <;> rw [h]
  · exact ⟨20, .inr (.inr (.inr rfl)), rfl⟩
  · exact ⟨16, .inr (.inr (.inl rfl)), rfl⟩
  · exact ⟨12, .inr (.inl rfl), rfl⟩
  · exact ⟨8, .inl rfl, rfl⟩
theorem ways_call {M : Model} {A : Around} {E : Value → Shared → Prop} {s : Shared} {Q : Value → Shared → Prop} {f : Value} {X : Int} {t : Tok}
    (h : ∀ p : Nat, Four p → 20 - X.fmod 4 * 4 = (p : Int) → wpAny M A (call f [.int (p : Int) t]) Q E s) : wpAny M A (call f [.int (20 - X.fmod 4 * 4) t]) Q E s := by
  obtain ⟨p, h1, h2⟩ := places_nat X
  rw [h2]
  exact h p h1 h2
theorem cat_pos {p : Nat} (h : Four p) : 0 < (rowW p p).getD (Int.toNat 0) 0 := by rcases h with rfl | rfl | rfl | rfl <;> decide +kernel
theorem Four.lo {p : Nat} (h : Four p) : 1 ≤ p := by rcases h with rfl | rfl | rfl | rfl <;> decide
theorem Four.hi {p : Nat} (h : Four p) : p ≤ 20 := by rcases h with rfl | rfl | rfl | rfl <;> decide
theorem row_call {M : Model} {A : Around} {E : Value → Shared → Prop} {s : Shared} {Q : Value → Shared → Prop} {f v : Value} {X : Int} {t u : Tok} {p : Nat} (hp : Four p)
    (h : ∀ fst : Int, 0 ≤ fst → fst < cat p → X.fmod ((rowW p p).getD (Int.toNat 0) 0) = fst → wpAny M A (call f [.int fst t, .int (p : Int) u, v]) Q E s) : wpAny M A (call f [.int (X.fmod ((rowW p p).getD (Int.toNat 0) 0)) t, .int (p : Int) u, v]) Q E s :=
  h _ (fmod_lo _ (cat_pos hp)) (fmod_hi _ (cat_pos hp)) rfl
local macro_rules | `(tactic| walk_at "exec For Name Call cons nil") => `(tactic| k_extra "exec For Name Call cons nil")
set_option maxHeartbeats 8000000 in
theorem law_holds : PySem.Challenge.rw_xo0015_01.Holds := by
  refine hd ?_
  k_fill
  intro w s₀ s₁ mg mb G Y fa o pm cd doc dV kV ho hd hcd hD hmg hg args vals as hpre hlay hrd hwl hlo
  have KX := kIn_of Y
  have X := (Ground.X G).1
  have V := (Ground.X G).2
  refine Ground.open G ?_
  intro T B D TE TW
  try (refine guard_noD D (by decide +kernel) ?_; clear D)
  obtain ⟨_, _, M⟩ := bmod_of_top T
  clear hmg
  wrow_args hpre hlay hrd hwl hlo
  all_goals (
    first | refine callC_kw (enter_call ?_) | refine enter_call ?_ | refine callC_kw (enter_callW ?_) | refine enter_callW ?_ | w_how
    w_top on
    have K0 := below_caller (Top.heap T)
    w_call any ho hd hcd hD T F
    clear hd
    k_drop
    skip)
  all_goals try k_fold
  k_with_none
  k_with "call ref" => (refine Blk.get ?_)
  k_steps
  refine ⟨?_⟩
  k_dflt (refine ways_call ?_)
  intro p hp hpe
  k_dflt (refine' ways_spec _ _ _ _ _ p _ hp.lo hp.hi _ _ _ _ _ _ _ _ _ _ _ _ _ _ _ _ _ (by k_asm) (by k_asm) (by k_asm) (by k_asm) (by k_asm) (by exact rfl) (by ktr_room) (by ktr_units) ?_)
  intro wa tl h9 tk9 F9 N9 hM9
  dsimp only at hM9 ⊢
  k_fold
  simp only [hpe] at F9
  have hc0 : 0 < (rowW p p).getD (Int.toNat 0) 0 := cat_pos hp
  have hlo := hp.lo
  have hhi := hp.hi
  clear hpe
  k_with_none
  k_with "subscriptTail" => ((have hi9 := hints; k_dflt (refine' item_int (ns := rowW p p) (by k_asm) hmem hints (by omega) (by omega) (by rw [rowW_length]; omega) ?_); intro t9; clear hints))
  k_with "subscriptTail" => (((fail_if_success (have hi9 := hints)); k_dflt (refine' item_row (M := matW p (p + 1)) (row := rowW p p) (by k_asm) (hM9.mono fun q hq => List.mem_append_left _ hq) (by omega) (by omega) (matW_get (by omega)) ?_); intro r vs0 n0 hmem hints))
  k_with "call ref" => (refine Blk.get ?_)
  k_with "exec For Name Call cons nil" => (refine Blk.get ?_)
  k_steps
  refine ⟨?_⟩
  k_dflt (refine row_call hp ?_)
  intro fst h0 h1 hX
  rename Fr _ _ _ _ => lF
  rename News _ _ _ _ => lN
  simp only [hX] at lF
  clear hX
  k_dflt (refine' row_spec _ _ _ _ _ p fst wa _ _ hlo hhi h0 (hM9.mono fun q hq => List.mem_append_left _ hq) _ _ _ _ _ _ _ _ _ _ _ _ _ _ _ _ _ (by k_asm) (by k_asm) (by k_asm) (by k_asm) (by k_asm) (by exact rfl) (by ktr_room) (by ktr_units) ?_)
  intro t7 h7 tk7 F7 N7
  rw [row_eq hp h0 h1, show maskT p fst = maskT p (fst + ((0 - 1 : Nat) : Int)) from congrArg (maskT p) (Int.add_zero fst).symm]
  dsimp only
  k_fold
  k_steps
  refine ⟨?_⟩
  k_with "pyIter ref" => (refine Blk.get ?_)
  k_dflt (refine wpAny_For ?_)
  k_steps
  refine ⟨?_⟩
  rename Fr _ _ _ _ => lF
  rename News _ _ _ _ => lN
  (with_reducible rename IsRange _ _ _ _ _ _ _ _ => lR)
  simp only [comb_eq] at lF
  refine turnLoop (n := 3) (fun i => maskT p (fst + ((i - 1 : Nat) : Int))) (fun i => if i = 0 then Str.ofString "" else txtB (wordT p (fst + ((i - 1 : Nat) : Int)))) (fun i => i = 0 ∨ fst + ((i - 1 : Nat) : Int) < cat p) rfl rfl rfl lR (by decide) (by decide) (hg ▸ fun y hy => by simp at hy) lF lN rfl rfl (.inl rfl) ?_ ?_
  · intro i t tm tt h tk gs own hi hPi hBi F8 N8
    clear lR lF lN G Y ho hcd
    k_with_none
    k_with "exec If" => (refine Blk.get ?_)
    k_steps
    refine ⟨?_⟩
    have hn0 : 0 ≤ fst + (i : Int) := by omega
    have hn1 : fst + (i : Int) ≤ cat p := by
      rcases hPi with q | q
      · subst q; omega
      · omega
    k_with_none
    k_dflt (refine if_join (maskT p (fst + (i : Int))) F8 N8 ?_ ?_)
    · cases i with
      | zero =>
        k_steps
        exact JPost.of (by k_asm) (by k_asm) (fun q hq => hq) rfl rfl (fun z g1 g2 g3 => by simp only [g1, g2, g3, if_false])
      | succ j =>
        have hj : fst + (j : Int) < cat p := by
          rcases hPi with q | q
          · exact absurd q (Nat.succ_ne_zero j)
          · exact q
        simp only [Nat.add_sub_cancel, Nat.succ_ne_zero, if_false] at F8 ⊢
        have hj0 : 0 ≤ fst + (j : Int) := by omega
        have hw := word_len hp hj0 hj
        have nx := next_side hp hj0 hj
        have nq := next_eq hp hj0 hj
        generalize hbs : wordT p (fst + (j : Int)) = bs at F8 hw nx nq
        generalize hmk : maskT p (fst + (j : Int)) = mk at F8 nx nq
        have hlen : (txtB bs).length = p := by rw [txtB_len, hw]
        k_with "call ref" => (refine Blk.get ?_)
        k_steps
        refine ⟨?_⟩
        rw [strip_eq bs]
        k_dflt (refine' next_spec _ _ _ _ _ mk (tailF bs : Int) (combT p) _ _ _ nx.1 nx.2.1 nx.2.2.1 nx.2.2.2.1 nx.2.2.2.2.1 (by omega) (by have := nx.2.2.2.2.2; omega) _ _ _ _ _ _ _ _ _ _ _ _ _ _ _ _ _ (by k_asm) (by k_asm) (by k_asm) (by k_asm) (by k_asm) (by exact rfl) (by ktr_room) (by ktr_units) ?_)
        intro t8 h8 tk8 F9' N9'
        rw [nq, show fst + (j : Int) + 1 = fst + ((j + 1 : Nat) : Int) by push_cast; omega]
        dsimp only
        k_fold
        k_steps
        exact JPost.of (by k_asm) (by k_asm) (fun q hq => hq) rfl rfl (fun z g1 g2 g3 => by simp only [g1, g2, g3, if_false])
    · intro h' tk' tm' xv F10 N10
      clear F8 N8 hPi
      have mp := mask_pos hp hn0 hn1
      have hsz := ap_size hp hn0 hn1
      have te := text_eq hp hn0 hn1
      k_with "subscriptTail" => ((have hi9 := hints; k_dflt (refine' item_int (ns := rowW p p) (by k_asm) hmem hints (by omega) (by omega) (by rw [rowW_length]; omega) ?_); intro t9; clear hints))
      k_with "subscriptTail" => (((fail_if_success (have hi9 := hints)); k_dflt (refine' item_row (M := matW p (p + 1)) (row := rowW p p) (by k_asm) (hM9.mono fun q hq => List.mem_append_right _ (List.mem_append_left _ hq)) (by omega) (by omega) (matW_get (by omega)) ?_); intro r vs0 n0 hmem hints))
      k_with "call ref" => ((k_dflt (refine' lt_spec _ _ _ _ _ (apI mk.toNat #[]) _ hsz _ _ _ _ _ _ _ _ _ _ _ _ _ _ _ _ _ (by k_asm) (by k_asm) (by k_asm) (by k_asm) (by k_asm) (by exact rfl) (by ktr_room) (by ktr_units) ?_); intro t9 h9 tk9 F9 N9; rw [te]; (try dsimp only); (try k_fold)))
      k_with "call ref" => ((k_dflt (refine' ap_spec _ _ _ _ _ mk _ mp.1 mp.2 _ _ _ _ _ _ _ _ _ _ _ _ _ _ _ _ _ (by k_asm) (by k_asm) (by k_asm) (by k_asm) (by k_asm) (by exact rfl) (by ktr_room) (by ktr_units) ?_); intro t9 h9 tk9 F9 N9; (try dsimp only); (try k_fold)))
      by_cases hc : fst + (i : Int) = (rowW p p).getD (Int.toNat 0) 0
      · have lm : maskT p (fst + (i : Int)) = 2 ^ ((p : Int)).toNat + (combT p).fdiv 4 := by rw [hc]; exact last_mask hp
        have ok : okB (wordT p (fst + (i : Int))) 0 = false := by rw [hc]; exact last_ok hp
        generalize hbs : wordT p (fst + (i : Int)) = bs at te ok
        generalize hmk : maskT p (fst + (i : Int)) = mk at mp hsz te lm F10
        k_with "call ref" => ((k_dflt (refine' check_spec _ _ _ _ _ bs _ _ _ _ _ _ _ _ _ _ _ _ _ _ _ _ _ _ (by k_asm) (by k_asm) (by k_asm) (by k_asm) (by k_asm) (by exact rfl) (by ktr_room) (by ktr_units) ⟨by assumption, ?_⟩); intro h9 tk9 gs9 hB9 F9 N9; rw [ok]; (try dsimp only); (try k_fold)))
        k_steps
        · exact endT (fun _ => rfl) (by first | rfl | wrow_post) (by k_asm) (by assumption)
        · exfalso; contradiction
        · exfalso; contradiction
      · have hlt : fst + (i : Int) < cat p := Int.lt_iff_le_and_ne.mpr ⟨hn1, hc⟩
        have hw := word_len hp hn0 hlt
        have ok := word_ok hp hn0 hlt
        have orr := word_rot hp hn0 hlt
        have pe := place_eq hp hn0 hlt
        generalize hbs : wordT p (fst + (i : Int)) = bs at te hw ok orr pe
        generalize hmk : maskT p (fst + (i : Int)) = mk at mp hsz te F10
        have hlen : (txtB bs).length = p := by rw [txtB_len, hw]
        k_with "call ref" => ((k_dflt (refine' check_spec _ _ _ _ _ bs _ _ _ _ _ _ _ _ _ _ _ _ _ _ _ _ _ _ (by k_asm) (by k_asm) (by k_asm) (by k_asm) (by k_asm) (by exact rfl) (by ktr_room) (by ktr_units) ⟨by assumption, ?_⟩); intro h9 tk9 gs9 hB9 F9 N9; rw [ok]; (try dsimp only); (try k_fold)))
        k_with "call ref" => ((k_dflt (refine' place_spec _ _ _ _ _ p bs wa _ hlo hhi hw ?hm9 _ _ _ _ _ _ _ _ _ _ _ _ _ _ _ _ _ (by k_asm) (by k_asm) (by k_asm) (by k_asm) (by k_asm) (by exact rfl) (by ktr_room) (by ktr_units) ?_); (case hm9 => exact hM9.mono fun q hq => List.mem_append_right _ (List.mem_append_left _ hq)); intro t9 h9 tk9 F9 N9; rw [pe]; (try dsimp only); (try k_fold)))
        k_steps
        · exfalso; contradiction
        · exfalso; omega
        · refine ⟨?_⟩
          rw [rot_eq (bs := bs) (by omega)]
          k_dflt (refine' check_spec _ _ _ _ _ (bs.tail ++ bs.take 1) _ _ _ _ _ _ _ _ _ _ _ _ _ _ _ _ _ _ (by k_asm) (by k_asm) (by k_asm) (by k_asm) (by k_asm) (by exact rfl) (by ktr_room) (by ktr_units) ⟨by assumption, ?_⟩)
          intro h9 tk9 gs9 hB9 F9 N9
          rw [orr]
          dsimp only
          k_fold
          k_steps
          · exfalso; contradiction
          · exact LPost.next (by assumption) (by k_asm) (by k_asm) (fun q hq => hq) (by rw [show maskT p (fst + ((i + 1 - 1 : Nat) : Int)) = mk from hmk]; rfl) (by rw [if_neg (Nat.succ_ne_zero i), show wordT p (fst + ((i + 1 - 1 : Nat) : Int)) = bs from hbs]; rfl) (fun z g1 g2 g3 => by simp only [g1, g2, g3, if_false]) (.inr hlt)
  · intro tv tm tt h tk gs hPn hBg F8 N8
    clear lR lF lN G Y ho hcd
    k_with_none
    dsimp only
    k_steps
    exact endT (fun _ => rfl) (by first | rfl | wrow_post) (by k_asm) (by assumption)
end Mine

theorem PySem.Challenge.cw_xo0015_01_holds : PySem.Challenge.rw_xo0015_01.Holds := by
  exact Mine.law_holds
