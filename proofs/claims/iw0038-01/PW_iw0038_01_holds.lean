import PyProof.Rows.All
import Wide.All
import OpenK.AllK
import Wide.FinOn
import Lean
import PySem.Challenge.RW_iw0038_01
open PySem PySem.W PySem.Calls PyProof.Rows
set_option Elab.async false
set_option maxRecDepth 100000
set_option linter.unusedSectionVars false
set_option linter.unusedSimpArgs false
set_option linter.unusedVariables false
set_option pp.deepTerms false
set_option pp.deepTerms.threshold 4
namespace Smt
section -- S1

abbrev Oct := List UInt8
def octOf : Value → Option Oct
  | .bytes b _ => some b.toList
  | _ => none
section
variable {K : Type} [DecidableEq K]
def look (D : List (K × Oct)) (k : K) : Option Oct := (D.find? fun p => decide (p.1 = k)).map (·.2)
def put (D : List (K × Oct)) (k : K) (x : Oct) : List (K × Oct) :=
  if D.any (fun p => decide (p.1 = k)) then D.map (fun p => if p.1 = k then (p.1, x) else p) else D ++ [(k, x)]

theorem look_put_self (D : List (K × Oct)) (k : K) (x : Oct) : look (put D k x) k = some x := by
  unfold look put
  by_cases h : D.any (fun p => decide (p.1 = k)) = true
  · rw [if_pos h]
    induction D with
    | nil => simp at h
    | cons p r ih =>
      by_cases hp : p.1 = k
      · simp [hp]
      · have h' : r.any (fun p => decide (p.1 = k)) = true := by simpa [hp] using h
        simp only [List.map_cons, if_neg hp, List.find?_cons, decide_eq_false hp]
        exact ih h'
  · rw [if_neg h]
    have hn : D.find? (fun p => decide (p.1 = k)) = none := by
      rw [List.find?_eq_none]; intro p hp hk
      exact h (List.any_eq_true.mpr ⟨p, hp, hk⟩)
    rw [List.find?_append, hn]; simp
theorem look_put_ne (D : List (K × Oct)) {k j : K} (x : Oct) (hjk : j ≠ k) : look (put D k x) j = look D j := by
  unfold look put
  by_cases h : D.any (fun p => decide (p.1 = k)) = true
  · rw [if_pos h]
    clear h
    induction D with
    | nil => rfl
    | cons p r ih =>
      by_cases hp : p.1 = k
      · have : ¬ p.1 = j := fun e => hjk (e.symm.trans hp)
        simp only [List.map_cons, if_pos hp, List.find?_cons, this, decide_false]
        exact ih
      · simp only [List.map_cons, if_neg hp, List.find?_cons]
        by_cases hj : p.1 = j
        · simp [hj]
        · simp only [hj, decide_false]; exact ih
  · rw [if_neg h]
    rw [List.find?_append]
    have : ¬ k = j := fun e => hjk e.symm
    cases D.find? (fun p => decide (p.1 = j)) with
    | none => simp [this]
    | some p => rfl
theorem put_length (D : List (K × Oct)) (k : K) (x : Oct) : (put D k x).length ≤ D.length + 1 := by
  unfold put; split <;> simp

variable {prog : Program} {w : World}
def Rel (kvs : List (K × Value)) (D : List (K × Oct)) : Prop := kvs.map (fun p => (p.1, octOf p.2)) = D.map (fun p => (p.1, some p.2))
theorem Rel.length {kvs : List (K × Value)} {D : List (K × Oct)} (h : Rel kvs D) : kvs.length = D.length := by
  have := congrArg List.length h; simpa using this
theorem octOf_some {v : Value} {x : Oct} (h : octOf v = some x) : ∃ b t, v = .bytes b t ∧ b.toList = x := by
  cases v <;> simp [octOf] at h
  exact ⟨_, _, rfl, h⟩
theorem Rel.keys {kvs : List (K × Value)} {D : List (K × Oct)} (h : Rel kvs D) : kvs.map (·.1) = D.map (·.1) := by
  have := congrArg (List.map (·.1)) h
  simpa [List.map_map, Function.comp_def] using this
theorem Rel.cons {p : K × Value} {r : List (K × Value)} {D : List (K × Oct)} (h : Rel (p :: r) D) : ∃ x E, D = (p.1, x) :: E ∧ octOf p.2 = some x ∧ Rel r E := by
  cases D with
  | nil => simp [Rel] at h
  | cons q E =>
    simp only [Rel, List.map_cons, List.cons.injEq, Prod.mk.injEq] at h
    exact ⟨q.2, E, by rw [h.1.1], h.1.2, h.2⟩
theorem Rel.at {kvs : List (K × Value)} {D : List (K × Oct)} (h : Rel kvs D) (k : K) : (look D k = none ∧ valueAt kvs k = none) ∨ ∃ x b t, look D k = some x ∧ valueAt kvs k = some (.bytes b t) ∧ b.toList = x := by
  induction kvs generalizing D with
  | nil =>
    have : D = [] := by cases D with | nil => rfl | cons _ _ => simp [Rel] at h
    subst this; exact .inl ⟨rfl, rfl⟩
  | cons p r ih =>
    obtain ⟨x, E, rfl, hx, hr⟩ := h.cons
    by_cases hk : p.1 = k
    · obtain ⟨b, t, e, hb⟩ := octOf_some hx
      exact .inr ⟨x, b, t, by simp [look, hk], by simp [valueAt, hk, e], hb⟩
    · have := ih hr
      simpa [look, valueAt, List.find?_cons, hk] using this
theorem Rel.some {kvs : List (K × Value)} {D : List (K × Oct)} (h : Rel kvs D) {k : K} {x : Oct} (hl : look D k = some x) : ∃ b t, valueAt kvs k = some (.bytes b t) ∧ b.toList = x := by
  rcases h.at k with ⟨h1, _⟩ | ⟨y, b, t, h1, h2, h3⟩
  · rw [h1] at hl; cases hl
  · rw [h1] at hl; cases hl; exact ⟨b, t, h2, h3⟩
theorem Rel.none {kvs : List (K × Value)} {D : List (K × Oct)} (h : Rel kvs D) {k : K} (hl : look D k = none) : valueAt kvs k = none := by
  rcases h.at k with ⟨_, h2⟩ | ⟨y, b, t, h1, _, _⟩
  · exact h2
  · rw [h1] at hl; cases hl
theorem Rel.isSome {kvs : List (K × Value)} {D : List (K × Oct)} (h : Rel kvs D) (k : K) : (valueAt kvs k).isSome = (look D k).isSome := by
  rcases h.at k with ⟨h1, h2⟩ | ⟨y, b, t, h1, h2, _⟩ <;> rw [h1, h2] <;> rfl
theorem Rel.append {k₁ k₂ : List (K × Value)} {D₁ D₂ : List (K × Oct)} (h₁ : Rel k₁ D₁) (h₂ : Rel k₂ D₂) : Rel (k₁ ++ k₂) (D₁ ++ D₂) := by
  unfold Rel at *; rw [List.map_append, List.map_append, h₁, h₂]
theorem Rel.any {kvs : List (K × Value)} {D : List (K × Oct)} (h : Rel kvs D) (k : K) : kvs.any (fun p => decide (p.1 = k)) = D.any (fun p => decide (p.1 = k)) := by
  have e := h.keys
  have e1 : kvs.any (fun p => decide (p.1 = k)) = (kvs.map (·.1)).any (fun j => decide (j = k)) := by rw [List.any_map]; rfl
  have e2 : D.any (fun p => decide (p.1 = k)) = (D.map (·.1)).any (fun j => decide (j = k)) := by rw [List.any_map]; rfl
  rw [e1, e2, e]
theorem Rel.mapSet {k : K} {b : Array UInt8} {t : Tok} : ∀ {kvs : List (K × Value)} {D : List (K × Oct)}, Rel kvs D →
    Rel (kvs.map fun kv => if kv.1 = k then (kv.1, Value.bytes b t) else kv) (D.map fun p => if p.1 = k then (p.1, b.toList) else p)
  | [], D, h => by
    have : D = [] := by cases D with | nil => rfl | cons _ _ => simp [Rel] at h
    subst this; rfl
  | p :: r, D, h => by
    obtain ⟨x, E, rfl, hx, hr⟩ := h.cons
    have ih := Rel.mapSet (k := k) (b := b) (t := t) hr
    by_cases hk : p.1 = k
    · simp only [List.map_cons, if_pos hk]
      unfold Rel at *
      simp only [List.map_cons, ih]; rfl
    · simp only [List.map_cons, if_neg hk]
      unfold Rel at *
      simp only [List.map_cons, ih, hx]
theorem Rel.put {kvs : List (K × Value)} {D : List (K × Oct)} (h : Rel kvs D) (k : K) (b : Array UInt8) (t : Tok) : Rel (stored kvs k (.bytes b t)) (put D k b.toList) := by
  unfold stored Smt.put
  rw [h.any k]
  split
  · exact h.mapSet
  · exact h.append rfl

def IsKB (knd : KeyKind prog w K) (o : Obj) (D : List (K × Oct)) : Prop := ∃ kvs, o.IsDictOf knd kvs ∧ Rel kvs D
theorem IsKB.nodup {knd : KeyKind prog w K} {o : Obj} {D : List (K × Oct)} (h : IsKB knd o D) : (D.map (·.1)).Nodup := by
  obtain ⟨kvs, ⟨_, _, _, _, _, _, hn⟩, hr⟩ := h
  rwa [← hr.keys]
end

theorem bk_is {prog : Program} {w : World} (b : Array UInt8) (t : Tok) : (bytesKind prog w).is b.toList (.bytes b t) = true := by
  show isBytes b.toList (.bytes b t) = true
  simp [isBytes]

section
variable {prog : Program} {w : World} {K : Type} [DecidableEq K] {knd : KeyKind prog w K} {A : Around} {E : Value → Shared → Prop} {s : Shared} {h₀ : Heap} {L d : Addr} {m : Str → Option Value} {news : List (Addr × Obj)} {g : Obj → List (Addr × Obj)} {o : Obj} {D : List (K × Oct)} {k : K} {key v : Value}
theorem kb_in {Q : Value → Shared → Prop} (N : News h₀ L s.heap news) (hp : (d, o) ∈ news) (hd : IsKB knd o D) (lo : (d == sysModules) = false) (hkey : knd.is k key = true)
    (h : Q (.bool (look D k).isSome) { s with toks := s.toks + 1 }) : wpAny (model prog w) A (compareOp .In key (.ref d)) Q E s :=
  let ⟨_, hdo, hr⟩ := hd
  wpAny_in_of hkey lo (kda_dict N hp hdo).mapOf (by rw [hr.isSome k]; exact h)
theorem kb_notin {Q : Value → Shared → Prop} (N : News h₀ L s.heap news) (hp : (d, o) ∈ news) (hd : IsKB knd o D) (lo : (d == sysModules) = false) (hkey : knd.is k key = true)
    (h : Q (.bool (!(look D k).isSome)) { s with toks := s.toks + 1 }) : wpAny (model prog w) A (compareOp .NotIn key (.ref d)) Q E s :=
  let ⟨_, hdo, hr⟩ := hd
  wpAny_notIn_of hkey lo (kda_dict N hp hdo).mapOf (by rw [hr.isSome k]; exact h)
theorem kb_item {value slice : PySem.Expr} {x : Oct} {Q : Value → Shared → Prop} (N : News h₀ L s.heap news) (hp : (d, o) ∈ news) (hd : IsKB knd o D) (hkey : knd.is k key = true) (hl : look D k = some x)
    (h : ∀ b t, b.toList = x → Q (.bytes b t) { s with toks := s.toks + 1 })
    (hs : subscripted slice false (.ref d) key = operate [.ref d, key] (getItem (.ref d) key) := by with_unfolding_all rfl) (hg : ∀ r, letTemporaryGo value (.ref d) r = pure () := by intro _; with_unfolding_all rfl) :
    wpAny (model prog w) A (subscriptTail value slice (.ref d) key) Q E s :=
  let ⟨_, hdo, hr⟩ := hd
  let ⟨b, t, e, hb⟩ := hr.some hl
  kda_item N hp hdo hkey e (h b t hb) hs hg
theorem kb_item' {value slice : PySem.Expr} {Q : Value → Shared → Prop} (N : News h₀ L s.heap news) (hp : (d, o) ∈ news) (hd : IsKB knd o D) (hkey : knd.is k key = true) (hl : (look D k).isSome = true)
    (h : ∀ b t, look D k = some b.toList → Q (.bytes b t) { s with toks := s.toks + 1 })
    (hs : subscripted slice false (.ref d) key = operate [.ref d, key] (getItem (.ref d) key) := by with_unfolding_all rfl) (hg : ∀ r, letTemporaryGo value (.ref d) r = pure () := by intro _; with_unfolding_all rfl) :
    wpAny (model prog w) A (subscriptTail value slice (.ref d) key) Q E s := by
  cases q : look D k with
  | none => rw [q] at hl; cases hl
  | some x => exact kb_item N hp hd hkey q (fun b t e => h b t (by rw [q, e])) hs hg
theorem kb_len {Q : Value → Shared → Prop} (N : News h₀ L s.heap news) (hp : (d, o) ∈ news) (hd : IsKB knd o D) (lo : (d == sysModules) = false) (hfit : D.length ≤ 16777216)
    (h : Q (.int D.length (s.toks + 1)) { s with toks := s.toks + 1 + 1 }) : wpAny (model prog w) A (call (.builtin "len") [.ref d]) Q E s :=
  let ⟨_, hdo, hr⟩ := hd
  kda_len N hp hdo lo (by rw [hr.length]; exact hfit) (by rw [hr.length]; exact h)
theorem kb_set {b : Array UInt8} {t : Tok} {Q : Unit → Shared → Prop} (F : Fr h₀ L s.heap m) (N : News h₀ L s.heap news) (U : UpdF d o news g) (hd : IsKB knd o D) (hkey : knd.is k key = true) (hsz : D.length ≤ sizeLine)
    (h : ∀ h' o', Fr h₀ L h' m → News h₀ L h' (g o') → IsKB knd o' (put D k b.toList) → Q () { s with heap := h', toks := s.toks + 1 }) : wpAny (model prog w) A (setItem (.ref d) key (.bytes b t)) Q E s :=
  let ⟨_, hdo, hr⟩ := hd
  kda_set F N U hdo hkey (by rw [hr.length]; exact hsz) fun h' o' F' N' hd' => h h' o' F' N' ⟨_, hd', hr.put k b t⟩
end
end -- S1
section -- STop
/-! the head: the opening by the library's boot, the top's run and the looks in one check of the kernel's (by the library's quick twins of its own functions); no twin of the text itself -/
set_option maxRecDepth 100000
theorem wellQ : PySem.W.OpenLaw.wellSaid PySem.Challenge.rw_iw0038_01 = true := by
  rw [PySem.W.Fast.te9446332074065402090]
  kernel_rfl
theorem left_once {p q : Program} {loose : List Str} {Xt : Shared → Bool} {α : Type} {Yf : Shared → α} {Ya : World → α} {N : Nat} {g0 : Bool} {H₀ : Params → Heap} {gs₀ : Array GenState} {d₀ : Drawn} {k₀ : Nat} {m₀ : Nat} {ann : Option Value}
    (open_ : ∀ w : World, (fencedOpening treeTable p w N).map (fun s => (s.heap, s.gens, s.drawn, s.toks)) = some (H₀ w.params, gs₀, d₀, k₀))
    (size : ∀ w : World, ((H₀ w.params).isNs mainGlobals && gs₀.size == 0, (H₀ w.params).objs.size, (H₀ w.params).nsMap mainGlobals "__annotations__") = (true, m₀, ann))
    (run : ∀ (w : World) (os : OsState), (topRun treeTable p w m₀ ann N ⟨H₀ w.params, gs₀, d₀, k₀, os⟩ (topStub p)).map (fun s => (staticsOk (importedModules p.main.body) (H₀ w.params) s.heap && namesBound p s.heap && gensDone s && laidKept (H₀ w.params) s.heap, openSeen q loose (importedModules p.main.body) Xt g0 s, Yf s)) = some (true, openGood q loose, Ya w)) : LeftO p q loose Xt Yf Ya N g0 := fun w => by
  obtain ⟨⟨h, gs, d, k, os⟩, e, e'⟩ := Option.map_eq_some_iff.mp (open_ w)
  obtain ⟨rfl, rfl, rfl, rfl⟩ : h = H₀ w.params ∧ gs = gs₀ ∧ d = d₀ ∧ k = k₀ := by simpa using e'
  obtain ⟨z1, z2, z3⟩ : _ ∧ _ ∧ _ := by simpa only [Prod.mk.injEq] using size w
  obtain ⟨s₁, r, l⟩ := Option.map_eq_some_iff.mp (run w os)
  obtain ⟨l1, l2, l3⟩ : _ ∧ _ ∧ _ := by simpa only [Prod.mk.injEq] using l
  have t : topFrom treeTable p w N ⟨H₀ w.params, gs, d, k, os⟩ = some s₁ := by
    unfold topFrom
    dsimp only
    rw [z1, z2, z3, r]
    show (match staticsOk (importedModules p.main.body) (H₀ w.params) s₁.heap && namesBound p s₁.heap && gensDone s₁ && laidKept (H₀ w.params) s₁.heap with | true => _ | false => _) = _
    rw [l1]
  unfold openEnds
  rw [e]
  show (topFrom treeTable p w N _).map _ = _
  rw [t]
  exact congrArg some (Prod.ext l2 l3)
abbrev pQ : Program := PySem.Challenge.pw_iw0038_01
theorem openQ : ∀ w : World, (fencedOpening treeTable pQ w 2662).map (fun s => (s.heap, s.gens, s.drawn, s.toks)) = some (boot_heap w.params, Array.mk [], boot_drawn, boot_toks) := boot_open (by kernel_rfl) (by kernel_rfl) (fun s => by kernel_rfl)
theorem sizeQ : ∀ w : World, ((boot_heap w.params).isNs mainGlobals && (Array.mk [] : Array GenState).size == 0, (boot_heap w.params).objs.size, (boot_heap w.params).nsMap mainGlobals "__annotations__") = (true, 11, some (Value.ref 6)) := fun w => by kernel_rfl
def pickS (l : List Stmt) (is : List Nat) : List Stmt := is.filterMap fun i => l[i]?
def viewQ : Program := { PySem.Challenge.pw_iw0038_01 with main := { PySem.Challenge.pw_iw0038_01.main with body := pickS PySem.Challenge.pw_iw0038_01.main.body [0, 2, 4, 5, 7, 9, 10, 11, 12, 13, 14, 15] } }
theorem two_goals {P : Prop} (_ : True) (h : P) : P := h
section
local macro_rules | `(tactic| o_law) => `(tactic| (refine holds_law wellQ fun said => ?_))
set_option hygiene false in
local macro_rules | `(tactic| o_head $_H) => `(tactic| (refine two_goals ?hw ?hc))
local macro_rules | `(tactic| w_witness2) => `(tactic| exact True.intro)
set_option maxHeartbeats 8000000 in
open_top hd0 for PySem.Challenge.rw_iw0038_01
end
def asQ : List Addr := [2, 3, 15, 22, 23, 24, 25, 28, 30, 31, 33, 34, 35, 37, 38, 40, 41, 49, 50, 52, 53, 55, 56, 57, 58, 60, 61, 63, 64, 65, 66, 67, 68, 70, 71, 73, 74, 75, 77, 78, 80, 81, 82, 84, 85, 87, 88, 89, 91, 92, 94, 95, 96, 98, 99, 101, 102, 103, 105, 106, 108, 109, 110, 112, 113, 115, 116, 117, 119, 120, 122, 123, 124, 126, 127, 129, 130, 131, 133, 134, 136, 137, 138, 139, 140, 141, 142, 145, 147, 148, 150, 151, 152, 154, 155, 157, 158, 159, 161, 162, 164, 165, 166, 169, 170, 171, 173, 174, 176, 177, 178, 180, 181, 183, 184, 185, 188, 189]
theorem asQ_eq : ∀ P, asQ = (hd0.heap_1 P).map (·.1) := fun _ => by kernel_rfl
noncomputable abbrev HQ : Hook := kmHook hd0.heap_1 asQ asQ_eq [186]
abbrev XtQ : Shared → Bool := fun s => xlAt viewQ [] s && recOk (RowW.records (OpenRow.toRowW (OpenLaw.row PySem.Challenge.rw_iw0038_01))) s
theorem runQ (w : World) (os : OsState) : (topRun treeTable pQ w 11 (some (Value.ref 6)) 2662 ⟨boot_heap w.params, Array.mk [], boot_drawn, boot_toks, os⟩ (topStub pQ)).map (fun s => (staticsOk (importedModules pQ.main.body) (boot_heap w.params) s.heap && namesBound pQ s.heap && gensDone s && laidKept (boot_heap w.params) s.heap, openSeen viewQ [Str.ofString "SparseMerkleTree"] (importedModules pQ.main.body) XtQ true s, Hook.obs HQ s)) = some (true, openGood viewQ [Str.ofString "SparseMerkleTree"], Hook.val HQ w) := by
  rw [PySem.W.Fast.te14082659384304107361, PySem.W.Fast.te14364793385576792824, PySem.W.Fast.te4187177175401517315]
  kernel_rfl
theorem leftQ : LeftO pQ viewQ [Str.ofString "SparseMerkleTree"] XtQ (Hook.obs HQ) (Hook.val HQ) 2662 := left_once (p := pQ) openQ sizeQ runQ
end -- STop
local macro_rules | `(tactic| walk_at $s:str) => `(tactic| k_extra $s)
local macro_rules | `(tactic| k_ne) => `(tactic| k_extra "k_ne")
local macro_rules | `(tactic| k_mem) => `(tactic| k_extra "k_mem")
local macro_rules | `(tactic| k_room) => `(tactic| k_extra "k_room")
local macro_rules | `(tactic| k_all) => `(tactic| k_extra "k_all")
section -- S2

/-! octets of a number -/
def be (n : Nat) (x : Int) : Oct := (KTBy.low x n).reverse
theorem be_length (n : Nat) (x : Int) : (be n x).length = n := by unfold be; rw [List.length_reverse, KTBy.low_length]
def oInts (b : Oct) : List Int := b.map fun c => ((c.toNat : Nat) : Int)
theorem oInts_be {n : Nat} {x : Int} (h0 : 0 ≤ x) (h1 : x < 256 ^ n) : oInts (be n x) = (KTBy.little n x).reverse := by
  unfold oInts be
  rw [List.map_reverse, KTBy.low_ints h0 h1, ← KTBy.little_eq]
def value (ks : List Int) : Int := ks.foldl (fun a k => a * 256 + k) 0
theorem value_snoc (ks : List Int) (k : Int) : value (ks ++ [k]) = value ks * 256 + k := by unfold value; rw [List.foldl_append]; rfl
theorem value_little : ∀ (n : Nat) (x : Int), 0 ≤ x → x < 256 ^ n → value (KTBy.little n x).reverse = x
  | 0, x, h0, h1 => by
    have : x = 0 := by simp at h1; omega
    subst this; rfl
  | n + 1, x, h0, h1 => by
    show value (x % 256 :: KTBy.little n (x / 256)).reverse = x
    rw [List.reverse_cons, value_snoc, value_little n (x / 256) (by omega) (by rw [Int.pow_succ] at h1; omega)]
    omega
theorem value_be {n : Nat} {x : Int} (h0 : 0 ≤ x) (h1 : x < 256 ^ n) : value (oInts (be n x)) = x := by
  rw [oInts_be h0 h1, value_little n x h0 h1]
theorem be_inj {n : Nat} {x y : Int} (hx0 : 0 ≤ x) (hx : x < 256 ^ n) (hy0 : 0 ≤ y) (hy : y < 256 ^ n) (h : be n x = be n y) : x = y := by
  rw [← value_be hx0 hx, ← value_be hy0 hy, h]

section
variable {prog : Program} {w : World} {A : Around} {E : Value → Shared → Prop} {s : Shared}
theorem to_big' {x : Int} {k : Nat} {t u v : Tok} {Q : Value → Shared → Prop} (hk : k ≤ 64) (h0 : 0 ≤ x) (h1 : x < 256 ^ k) (h : ∀ t' k', Q (.bytes (be k x).toArray t') { s with toks := k' }) :
    wpAny (model prog w) A (call (.builtin "int.to_bytes") [.int x t, .int (k : Int) u, .str (PySem.Str.ofString "big") v]) Q E s := by
  have hb := KTBy.bits_le rfl h0 h1
  refine wpAny_call_entry KTBy.slot (typeIs_int s x t) KTBy.entry ?_ (KTBy.args _ _ _)
  show wpAny _ _ (Builtin.Int.intOfSelf (.int x t) >>= fun y => _) _ _ s
  refine wpAny_bind (wpAny_of_eq (a := x) rfl ?_)
  show wpAny _ _ (Builtin.Int.intBindNamed "to_bytes" ["length", "byteorder", "signed"] 0 2 [.int (k : Int) u, .str (PySem.Str.ofString "big") v] [] >>= fun l => _) _ _ s
  refine wpAny_bind (wpAny_of_eq (a := [some (.int (k : Int) u), some (.str (PySem.Str.ofString "big") v), none]) (by kernel_rfl) ?_)
  show wpAny _ _ (Builtin.Int.intIndex "int.to_bytes" (.int (k : Int) u) >>= fun n => _) _ _ s
  refine wpAny_bind (wpAny_of_eq (a := (k : Int)) rfl ?_)
  refine KTBy.if_not (by show (decide ((k : Int) < -(2 ^ 63 : Int)) || decide ((k : Int) ≥ 2 ^ 63)) = false; rw [decide_eq_false (show ¬ ((k : Int) < -(2 ^ 63 : Int)) by omega), decide_eq_false (show ¬ ((k : Int) ≥ 2 ^ 63) by omega)]; rfl) ?_
  refine wpAny_bind (wpAny_of_eq (a := PySem.Str.ofString "big") (by kernel_rfl) ?_)
  refine wpAny_bind (wpAny_of_eq (a := false) rfl ?_)
  refine wpAny_bind (wpAny_of_eq (a := false) (by kernel_rfl) ?_)
  refine wpAny_ite_false (decide_eq_false (show ¬ ((k : Int) < 0) by omega)) ?_
  refine wpAny_ite_false (decide_eq_false (show ¬ ((k : Int) > 2 ^ 63 - 1 - 33) by omega)) ?_
  refine wpAny_ite_false (decide_eq_false (show ¬ ((k : Int) > (sizeLine : Int)) by rw [sizeLine_eq]; omega)) ?_
  refine KTBy.if_not (by show (decide (x < 0) && !false) = false; rw [decide_eq_false (show ¬ x < 0 by omega)]; rfl) ?_
  refine KTBy.if_not (by show (_ && decide ((Builtin.Int.intBits x : Int) > 8 * (k : Int))) = false; rw [decide_eq_false (show ¬ ((Builtin.Int.intBits x : Int) > 8 * (k : Int)) by omega), Bool.and_false]) ?_
  refine wpAny_bind (wpAny_mkBytes (wpAny_pure ⟨_, rfl, ?_⟩) (by show (List.reverse (KTBy.low x (Int.toNat (k : Int)))).length ≤ sizeLine; rw [List.length_reverse, KTBy.low_length, Int.toNat_natCast, sizeLine_eq]; omega))
  exact h _ _
end

/-! a call's site -/
structure Site (w : World) (A : Around) (g h : Heap) : Prop where
  below : ∃ base fr, Below A base fr g
  K : (hd0.heap_1 w.params).In g
  top : ∃ p loose mean mg mb, Top p loose mean mg mb g
  size : g.objs.size = h.objs.size
  sub : ∀ b o, g.get? b = some o → h.get? b = some o
  hand : A.handled = none

abbrev Ar (dp un : Nat) (gd : Option (List Code)) (fr : List Env) : Around := { handled := none, depth := dp, frames := some fr, guards := gd, units := un }
theorem Site.lit {w : World} {A : Around} {g h : Heap} (S : Site w A g h) : ∃ base fr dp un gd, A = Ar dp un gd fr ∧ Below A base fr g := by
  obtain ⟨base, fr, B⟩ := S.below
  obtain ⟨hh, dp, fr', gd, un⟩ := A
  have e1 : hh = none := S.hand
  have e2 : fr' = some fr := B.stack
  subst e1 e2
  exact ⟨base, fr, dp, un, gd, rfl, B⟩
def Led (g h : Heap) (led : List (Addr × Obj)) : Prop := ∀ p ∈ led, h.get? p.1 = some p.2 ∧ g.get? p.1 = none

section
variable {prog : Program} {w : World} {A : Around} {s : Shared} {g : Heap} {led : List (Addr × Obj)} {R : Result → Shared → Prop} {name qual : Str} {params : Arguments} {body : List Stmt} {scope : Scope} {cl : List (Str × Addr)} {dV kV doc pm cdv ct oc : Value} {an od : Option Addr} {osl : Array (Option Value)} {f : Addr} {args : Args} {binds : List (Str × Value)} {fo : Obj}

theorem enterX (S : Site w A g s.heap) (hL : Led g s.heap led) (ho : g.get? f = some fo) (hdt : fo.data = .func (fnX name qual params body scope cl dV kV doc pm an cdv ct)) (hcd : g.CodeRec cdv qual) (hroom : A.depth < recursionLimit)
    (hbind : BindsTo s (fnX name qual params body scope cl dV kV doc pm an cdv ct) args binds) (hloc : ∀ y ∈ binds, scope.names.lookup y.1 = some .local)
    (h : ∀ base fr dp un gd p loose mean mg mb L h₁, A = Ar dp un gd fr → Below A base fr g → (hd0.heap_1 w.params).In g → Top p loose mean mg mb g → Fr g L h₁ (fun y => binds.reverse.lookup y) → News g L h₁ led → (∀ q ∈ led, q.1 < L) →
      wpAny (model prog w) (A.deeper (envX qual scope L f cdv cl)) (execs body (envX qual scope L f cdv cl))
        (fun fl s' => R (.ok (.ret (match fl with | .ret v => v | _ => .none))) s')
        (fun e s' => wpAny (model prog w) (A.deeper (envX qual scope L f cdv cl)) (leaving (envX qual scope L f cdv cl) e) (fun _ s'' => R (.error e) s'') (fun e' s'' => R (.error e') s'') s')
        { s with heap := h₁, toks := s.toks + binds.length })
    (hcell : ∀ x ∈ scope.names, x.2 ≠ .cell) (hco : scope.isCoroutine = false := by rfl) (hgen : scope.isGenerator = false := by rfl) (hk : scope.kind = .function := by rfl) : codeAny (model prog w) A (.call (.ref f) args) R s := by
  obtain ⟨base, fr, dp, un, gd, eA, B⟩ := S.lit
  obtain ⟨p, loose, mean, mg, mb, T⟩ := S.top
  refine codeAny_call_def (fd := fnX name qual params body scope cl dV kV doc pm an cdv ct) (body := body) (binds := binds) hroom (S.sub _ _ ho) hdt (T.nolimit.keeps S.sub) (hcd.keeps S.sub) rfl hbind hcell hloc (fun h₁ hns hk₁ => ?_) hco hgen hk
  exact h base fr dp un gd p loose mean mg mb s.heap.objs.size h₁ eA B S.K T ⟨hns, fun b o e => hk₁ b o (S.sub b o e), Nat.le_of_eq S.size⟩
    (fun q hq => ⟨hk₁ _ _ (hL q hq).1, Nat.ne_of_lt (Heap.lt_size (hL q hq).1), (hL q hq).2⟩) (fun q hq => Heap.lt_size (hL q hq).1)

theorem enterK (S : Site w A g s.heap) (hL : Led g s.heap led) (ho : (hd0.heap_1 w.params).lookup f = some ⟨oc, od, .func (fnOf name qual params body scope dV kV doc pm an cdv ct), osl⟩) (hcd : codeIn (hd0.heap_1 w.params) cdv qual = true) (hroom : A.depth < recursionLimit)
    (hbind : BindsTo s (fnOf name qual params body scope dV kV doc pm an cdv ct) args binds) (hloc : ∀ y ∈ binds, scope.names.lookup y.1 = some .local)
    (h : ∀ base fr dp un gd p loose mean mg mb L h₁, A = Ar dp un gd fr → Below A base fr g → (hd0.heap_1 w.params).In g → Top p loose mean mg mb g → Fr g L h₁ (fun y => binds.reverse.lookup y) → News g L h₁ led → (∀ q ∈ led, q.1 < L) →
      wpAny (model prog w) (A.deeper (envOf qual scope L f cdv)) (execs body (envOf qual scope L f cdv))
        (fun fl s' => R (.ok (.ret (match fl with | .ret v => v | _ => .none))) s')
        (fun e s' => wpAny (model prog w) (A.deeper (envOf qual scope L f cdv)) (leaving (envOf qual scope L f cdv) e) (fun _ s'' => R (.error e) s'') (fun e' s'' => R (.error e') s'') s')
        { s with heap := h₁, toks := s.toks + binds.length })
    (hcell : ∀ x ∈ scope.names, x.2 ≠ .cell) (hco : scope.isCoroutine = false) (hgen : scope.isGenerator = false) (hk : scope.kind = .function) : codeAny (model prog w) A (.call (.ref f) args) R s :=
  enterX (cl := []) S hL (S.K _ _ ho) rfl (codeRec_of S.K hcd) hroom hbind hloc h hcell hco hgen hk

end

section
variable {w : World} {A : Around} {g h : Heap} {L : Addr} {m : Str → Option Value} {base : Heap} {fr : List Env} {env : Env} {news led : List (Addr × Obj)}
  {p : Program} {loose : List Str} {mean : ExcName → Option Value} {mg mb : Str → Option Value}

theorem site_of {A' : Around} (B : Below A base fr g) (F : Fr g L h m) (X : (hd0.heap_1 w.params).In g) (T : Top p loose mean mg mb g) (N : News g L h led) (hA : A'.frames = some (env :: fr)) (hf : env.frame = some L) (hke : env.scope.kind = .function) (hh : A'.handled = none) :
    Site w A' (hideAll h (led.map (·.1))) h ∧ Led (hideAll h (led.map (·.1))) h led := by
  have nm : ∀ b o, g.get? b = some o → b ∉ led.map (·.1) := fun b o e q => by
    obtain ⟨p, hp, rfl⟩ := List.mem_map.mp q
    rw [(N p hp).2.2] at e; cases e
  have st : g.StaysIn (hideAll h (led.map (·.1))) := fun b o e => hideAll_get _ (F.keep b o e) (nm b o e)
  have nL : L ∉ led.map (·.1) := fun q => by
    obtain ⟨p, hp, e⟩ := List.mem_map.mp q
    exact (N p hp).2.1 e
  have B₁ := pushX B F hf hke
  refine ⟨⟨⟨base, env :: fr, hA, fun b o e => st b o (B.stays b o e), funFrames_hideAll B₁.frames fun env' he b hb hf' => ?_⟩, X.keeps st, ⟨p, loose, mean, mg, mb, T.keeps st⟩, hideAll_size _ _, fun b o e => of_hideAll _ e, hh⟩,
    fun p hp => ⟨(N p hp).1, hideAll_none _ (List.mem_map_of_mem hp)⟩⟩
  cases he with
  | head => exact nL ((Option.some.inj (hf.symm.trans hf') : L = b) ▸ hb)
  | tail _ he =>
    obtain ⟨L₁, o₁, hf₁, ho₁⟩ := funFrames_in B.frames env' he
    rw [hf₁] at hf'
    exact nm L₁ o₁ ho₁ ((Option.some.inj hf' : L₁ = b) ▸ hb)

/-- back from a call that kept all but the ledger's part -/
theorem fr_back {h' : Heap} (F : Fr g L h m) (N : News g L h led) (hk : ∀ b o, (hideAll h (led.map (·.1))).get? b = some o → h'.get? b = some o) : Fr g L h' m := by
  have nL : L ∉ led.map (·.1) := fun q => by
    obtain ⟨p, hp, e⟩ := List.mem_map.mp q
    exact (N p hp).2.1 e
  obtain ⟨oL, es, ep, hL, r⟩ := F.ns
  refine ⟨⟨oL, es, ep, hk _ _ (hideAll_get _ hL nL), r⟩, fun b o e => hk _ _ (hideAll_get _ (F.keep b o e) fun q => ?_), F.above⟩
  obtain ⟨p, hp, rfl⟩ := List.mem_map.mp q
  rw [(N p hp).2.2] at e; cases e
theorem old_back {h' : Heap} {a : Addr} {o : Obj} (N : News g L h news) (hm : (a, o) ∈ news) (hn : a ∉ led.map (·.1)) (hk : ∀ b o, (hideAll h (led.map (·.1))).get? b = some o → h'.get? b = some o) :
    h'.get? a = some o ∧ a ≠ L ∧ g.get? a = none :=
  ⟨hk _ _ (hideAll_get _ (N _ hm).1 hn), (N _ hm).2⟩
theorem upd_back {h' : Heap} {a : Addr} {o o' : Obj} (N : News g L h news) (hm : (a, o) ∈ news) (ho : h'.get? a = some o') : h'.get? a = some o' ∧ a ≠ L ∧ g.get? a = none := ⟨ho, (N _ hm).2⟩
theorem new_back {h' : Heap} {a : Addr} {o' : Obj} (F : Fr g L h m) (ho : h'.get? a = some o') (hn : h.get? a = none) : h'.get? a = some o' ∧ a ≠ L ∧ g.get? a = none := by
  refine ⟨ho, fun e => ?_, ?_⟩
  · obtain ⟨oL, es, ep, hL, r⟩ := F.ns
    rw [e, hL] at hn; cases hn
  · cases q : g.get? a with
    | none => rfl
    | some o => rw [F.keep _ _ q] at hn; cases hn
theorem not_modules (T : Top p loose mean mg mb g) (K : g.get? sysModules ≠ none) {a : Addr} (hn : g.get? a = none) : (a == sysModules) = false := by
  refine beq_eq_false_iff_ne.mpr fun e => ?_
  rw [e] at hn; exact K hn
end
end -- S2
section -- S3

/-! the table of the law's hash -/
def tabFrom : Nat → List Oct → List (Oct × Oct)
  | _, [] => []
  | n, x :: r => (x, be 32 (n + 1)) :: tabFrom (n + 1) r
def tab (T : List Oct) : List (Oct × Oct) := tabFrom 0 T
def hsh (T : List Oct) (x : Oct) : Option Oct := look (tab T) x
theorem tabFrom_append : ∀ (T r : List Oct) (n : Nat), tabFrom n (T ++ r) = tabFrom n T ++ tabFrom (n + T.length) r
  | [], r, n => rfl
  | x :: T, r, n => by
    simp only [List.cons_append, tabFrom, tabFrom_append T r (n + 1), List.length_cons]
    rw [show n + 1 + T.length = n + (T.length + 1) by omega]
theorem tab_length : ∀ (T : List Oct) (n : Nat), (tabFrom n T).length = T.length
  | [], _ => rfl
  | x :: T, n => by simp [tabFrom, tab_length T (n + 1)]
theorem tabFrom_keys : ∀ (T : List Oct) (n : Nat), (tabFrom n T).map (·.1) = T
  | [], _ => rfl
  | x :: T, n => by simp [tabFrom, tabFrom_keys T (n + 1)]
theorem hsh_ext {T : List Oct} {x h : Oct} (r : List Oct) (e : hsh T x = some h) : hsh (T ++ r) x = some h := by
  unfold hsh tab look at *
  rw [tabFrom_append, List.find?_append]
  cases q : (tabFrom 0 T).find? (fun p => decide (p.1 = x)) with
  | none => rw [q] at e; cases e
  | some p => rw [q] at e; exact e
theorem hsh_new {T : List Oct} {x : Oct} (e : hsh T x = none) : put (tab T) x (be 32 (T.length + 1)) = tab (T ++ [x]) := by
  unfold hsh look at e
  rw [Option.map_eq_none_iff] at e
  unfold put
  rw [if_neg, tab, tab, tabFrom_append]
  · simp [tabFrom]
  · intro h
    obtain ⟨p, hp, hq⟩ := List.any_eq_true.mp h
    exact absurd hq (by simpa using List.find?_eq_none.mp e p hp)
theorem find_mem : ∀ (T : List Oct) (n : Nat) (x h : Oct), ((tabFrom n T).find? fun p => decide (p.1 = x)).map (·.2) = some h → ∃ i, i < T.length ∧ h = be 32 ((n + i : Nat) + 1) ∧ T[i]? = some x
  | [], n, x, h, e => by cases e
  | y :: T, n, x, h, e => by
    unfold tabFrom at e
    by_cases hy : y = x
    · simp only [List.find?_cons, hy, decide_true, Option.map_some, Option.some.injEq] at e
      exact ⟨0, by simp, by rw [← e]; rfl, by simp [hy]⟩
    · simp only [List.find?_cons, decide_eq_false hy] at e
      obtain ⟨i, h1, h2, h3⟩ := find_mem T (n + 1) x h e
      exact ⟨i + 1, by simpa using h1, by rw [h2]; congr 2; omega, by simpa using h3⟩
theorem hsh_inj {T : List Oct} (hT : T.length < 2 ^ 60) {x y h : Oct} (hx : hsh T x = some h) (hy : hsh T y = some h) : x = y := by
  obtain ⟨i, h1, h2, h3⟩ := find_mem T 0 x h hx
  obtain ⟨j, k1, k2, k3⟩ := find_mem T 0 y h hy
  rw [h2] at k2
  have hb : (2 ^ 61 : Int) < 256 ^ 32 := by decide
  have := be_inj (n := 32) (by omega) (by omega) (by omega) (by omega) k2
  have e : i = j := by omega
  rw [e] at h3; rw [h3] at k3; exact Option.some.inj k3
theorem hsh_len {T : List Oct} {x h : Oct} (hx : hsh T x = some h) : h.length = 32 := by
  obtain ⟨i, h1, h2, h3⟩ := find_mem T 0 x h hx
  rw [h2, be_length]
def IsTbl (prog : Program) (w : World) (o : Obj) (T : List Oct) : Prop := IsKB (bytesKind prog w) o (tab T)
def Ext (n : Nat) (T T' : List Oct) : Prop := ∃ r, T' = T ++ r ∧ r.length ≤ n
theorem Ext.refl (T : List Oct) : Ext 0 T T := ⟨[], by simp, by simp⟩
theorem Ext.trans {a b : Nat} {T T' T'' : List Oct} (h : Ext a T T') (h' : Ext b T' T'') : Ext (a + b) T T'' := by
  obtain ⟨r, rfl, l⟩ := h
  obtain ⟨r', rfl, l'⟩ := h'
  exact ⟨r ++ r', by simp, by simp; omega⟩
theorem Ext.mono {a b : Nat} {T T' : List Oct} (h : Ext a T T') (hab : a ≤ b) : Ext b T T' := let ⟨r, e, l⟩ := h; ⟨r, e, by omega⟩
theorem Ext.len {a : Nat} {T T' : List Oct} (h : Ext a T T') : T'.length ≤ T.length + a := by obtain ⟨r, rfl, l⟩ := h; simp; omega
theorem Ext.hsh {a : Nat} {T T' : List Oct} (h : Ext a T T') {x y : Oct} (e : hsh T x = some y) : Smt.hsh T' x = some y := by obtain ⟨r, rfl, l⟩ := h; exact hsh_ext r e

/-! the function that the law makes -/
def stmtsOf : Stmt → List Stmt
  | .FunctionDef _ _ b _ _ _ _ _ _ _ => b
  | _ => []
def paramsOf : Stmt → Arguments
  | .FunctionDef _ a _ _ _ _ _ _ _ _ => a
  | _ => default
def scopeOf : Stmt → Scope
  | .FunctionDef _ _ _ _ _ _ sc _ _ _ => sc
  | _ => default
def lawBody : List Stmt := match PySem.Challenge.pw_iw0038_01.main.body.reverse with
  | d :: _ => stmtsOf d
  | [] => []
def hashDef : Stmt := match lawBody with
  | _ :: d :: _ => d
  | _ => .Pass default
def hashBody : List Stmt := stmtsOf hashDef
def hashParams : Arguments := paramsOf hashDef
def hashScope : Scope := scopeOf hashDef
def HashFn (g : Heap) (fa ta : Addr) : Prop := ∃ (fo : Obj) (pm doc cdv ct : Value) (an : Option Addr) (c : Addr) (co : Obj),
  g.get? fa = some fo ∧ fo.data = .func (fnX "_law_hash" "law.<locals>._law_hash" hashParams hashBody hashScope [("table", c)] .none .none doc pm an cdv ct) ∧ g.CodeRec cdv "law.<locals>._law_hash" ∧
  g.get? c = some co ∧ co.data = .cell (some (.ref ta))
theorem HashFn.keeps {g g' : Heap} {fa ta : Addr} (H : HashFn g fa ta) (k : ∀ b o, g.get? b = some o → g'.get? b = some o) : HashFn g' fa ta :=
  let ⟨fo, pm, doc, cdv, ct, an, c, co, h1, h2, h3, h4, h5⟩ := H
  ⟨fo, pm, doc, cdv, ct, an, c, co, k _ _ h1, h2, h3.keeps k, k _ _ h4, h5⟩

section
variable {M : Model} {A : Around} {E : Value → Shared → Prop} {s : Shared} {h₀ : Heap} {L a : Addr} {m : Str → Option Value} {cn : Str} {cs : Scope} {ccd : Value} {cl : List (Str × Addr)} {x : Str} {pos : Pos} {v : Value} {Q : Value → Shared → Prop} {c : Addr} {co : Obj}
theorem nameX_Fg (F : Fr h₀ L s.heap m) (hc : cl.lookup x = some c) (hv : h₀.get? c = some co) (hdt : co.data = .cell (some v)) (h : Q v s)
    (hk : cs.kind = .function := by rfl) (hx : (envX cn cs L a ccd cl).kindOf x = some .free := by rfl) (hb : (x == ("__debug__" : Str)) = false := by decide) (hn : (x == ("__classdict__" : Str)) = false := by decide) :
    wpAny M A (eval (.Name x pos) (envX cn cs L a ccd cl)) Q E s := wpAny_Name (wpAny_loadName_free hk hx hc ⟨co, F.keep _ _ hv, hdt⟩ h hn) hb
end

section
variable {prog : Program} {w : World} {A : Around} {E : Value → Shared → Prop} {s : Shared} {h₀ : Heap} {L d : Addr} {m : Str → Option Value} {news : List (Addr × Obj)} {g : Obj → List (Addr × Obj)} {o : Obj} {T : List Oct} {x : Array UInt8} {xt : Tok}
theorem tbl_notin {Q : Value → Shared → Prop} (N : News h₀ L s.heap news) (hp : (d, o) ∈ news) (hd : IsTbl prog w o T) (lo : (d == sysModules) = false)
    (h : Q (.bool (!(hsh T x.toList).isSome)) { s with toks := s.toks + 1 }) : wpAny (model prog w) A (compareOp .NotIn (.bytes x xt) (.ref d)) Q E s := kb_notin N hp hd lo (bk_is _ _) h
theorem tbl_item {value slice : PySem.Expr} {Q : Value → Shared → Prop} (N : News h₀ L s.heap news) (hp : (d, o) ∈ news) (hd : IsTbl prog w o T) (hl : (hsh T x.toList).isSome = true)
    (h : ∀ b t, hsh T x.toList = some b.toList → Q (.bytes b t) { s with toks := s.toks + 1 })
    (hs : subscripted slice false (.ref d) (.bytes x xt) = operate [.ref d, (.bytes x xt)] (getItem (.ref d) (.bytes x xt)) := by with_unfolding_all rfl) (hg : ∀ r, letTemporaryGo value (.ref d) r = pure () := by intro _; with_unfolding_all rfl) :
    wpAny (model prog w) A (subscriptTail value slice (.ref d) (.bytes x xt)) Q E s := kb_item' N hp hd (bk_is _ _) hl h hs hg
theorem tbl_len {Q : Value → Shared → Prop} (N : News h₀ L s.heap news) (hp : (d, o) ∈ news) (hd : IsTbl prog w o T) (lo : (d == sysModules) = false) (hfit : T.length ≤ 1000000)
    (h : Q (.int T.length (s.toks + 1)) { s with toks := s.toks + 1 + 1 }) : wpAny (model prog w) A (call (.builtin "len") [.ref d]) Q E s :=
  kb_len (knd := bytesKind _ _) N hp hd lo (by simp only [tab, tab_length]; omega) (by simp only [tab, tab_length]; exact h)
theorem tbl_set {b : Array UInt8} {t : Tok} {Q : Unit → Shared → Prop} (F : Fr h₀ L s.heap m) (N : News h₀ L s.heap news) (U : UpdF d o news g) (hd : IsTbl prog w o T) (hfit : T.length ≤ 1000000) (hn : (hsh T x.toList).isSome = false) (hb : b.toList = be 32 (T.length + 1))
    (h : ∀ h' o', Fr h₀ L h' m → News h₀ L h' (g o') → IsTbl prog w o' (T ++ [x.toList]) → (hsh (T ++ [x.toList]) x.toList).isSome = true → Q () { s with heap := h', toks := s.toks + 1 }) :
    wpAny (model prog w) A (setItem (.ref d) (.bytes x xt) (.bytes b t)) Q E s :=
  kb_set F N U hd (bk_is _ _) (by simp only [tab, tab_length, sizeLine_eq]; omega) fun h' o' F' N' hd' => by
    have hn' : hsh T x.toList = none := by cases q : hsh T x.toList with | none => rfl | some y => rw [q] at hn; cases hn
    have e := hsh_new hn'
    rw [hb, e] at hd'
    exact h h' o' F' N' hd' (by unfold hsh; rw [← e, look_put_self]; rfl)
end
theorem lines_s3_1 : True := by
  w_top off
  k_with_none
  (k_with "eval Name" => ((k_here; k_dflt (refine' nameX_Fg ?q0F ?q0c ?q0v ?q0d ?_ ?q0a ?q0b; (case q0a => rfl); (case q0b => rfl); (case q0F => k_asm); (case q0c => rfl); (case q0v => assumption); (case q0d => assumption); k_whole))))
  (k_with "compareOp NotIn bytes ref" => ((k_here; k_dflt (refine' tbl_notin ?q1N ?q1p ?q1d ?q1lo ?_; (case q1N => k_asm); (case q1p => k_mem); (case q1d => assumption); (case q1lo => assumption)))))
  (k_with "call builtin:len" => ((k_here; (with_reducible show wpAny _ _ (call (Value.builtin "len") [Value.ref _]) _ _ _); k_dflt (refine' tbl_len ?q2N ?q2p ?q2d ?q2lo ?q2z ?_; (case q2N => k_asm); (case q2p => k_mem); (case q2d => assumption); (case q2lo => assumption); (case q2z => omega)))))
  (k_with "subscriptTail" => ((k_here; (with_reducible show wpAny _ _ (subscriptTail _ _ (Value.ref _) (Value.bytes _ _)) _ _ _); k_dflt (refine' tbl_item ?q3N ?q3p ?q3d ?q3l ?_; (case q3N => k_asm); (case q3p => k_mem); (case q3d => assumption); (case q3l => assumption); (intro b' t' hl')))))
  (k_with "setItem ref bytes" => ((k_here; (with_reducible show wpAny _ _ (setItem (Value.ref _) (Value.bytes _ _) (Value.bytes _ _)) _ _ _); k_dflt (refine' tbl_set ?q4F ?q4N ?q4U ?q4d ?q4z ?q4n ?q4b ?_; (case q4F => k_asm); (case q4N => k_asm); (case q4U => k_updF); (case q4d => assumption); (case q4z => omega); (case q4n => assumption); (case q4b => rfl); (intro h' o' F' N' hd' hl'); (try dsimp only at N')))))
  (k_with "call builtin:int.to_bytes" => ((k_here; k_dflt (with_unfolding_all refine' to_big' (k := 32) (by decide) ?q5a ?q5b ?_; (case q5a => omega); (case q5b => (have hb61 : (2 ^ 61 : Int) < 256 ^ 32 := by decide); omega); (intro t' k')))))
  trivial

theorem fillit : PySem.Challenge.rw_iw0038_01.foot = 7 ∧ hd0.heap_1 = hd0.heap_1 := by
  k_fill
  exact ⟨rfl, rfl⟩

section
variable {prog : Program} {w : World} {A : Around} {s : Shared} {g : Heap} {R : Result → Shared → Prop} {fa ta : Addr} {ot : Obj} {T : List Oct} {x : Array UInt8} {xt : Tok}
set_option maxHeartbeats 4000000 in
set_option pp.deepTerms false in
set_option pp.deepTerms.threshold 4 in
theorem law_hash (S : Site w A g s.heap) (H : HashFn g fa ta) (hta : Led g s.heap [(ta, ot)]) (hot : IsTbl prog w ot T) (hsz : T.length ≤ 1000000) (hroom : A.depth < recursionLimit) (lo : (ta == sysModules) = false)
    (ret : ∀ b t h' tk' ot' T', Ext 1 T T' → hsh T' x.toList = some b.toList → IsTbl prog w ot' T' → (∀ a o, g.get? a = some o → h'.get? a = some o) → h'.get? ta = some ot' → R (.ok (.ret (.bytes b t))) { s with heap := h', toks := tk' }) :
    codeAny (model prog w) A (.call (.ref fa) ⟨[.bytes x xt], []⟩) R s := by
  obtain ⟨fo, pm, doc, cdv, ct, an, c, co, h1, h2, h3, h4, h5⟩ := H
  refine enterX (binds := [("octets", .bytes x xt)]) S hta h1 h2 h3 hroom (BindsTo.of_eq rfl) (locs rfl) ?_ (by decide) rfl rfl rfl
  intro base fr dp un gd p loose mean mg mb L h₁ eA B X TT F N l1
  subst eA
  conv in (execs hashBody _) => arg 1; whnf
  conv in (execs _ (envX _ hashScope _ _ _ _)) => arg 2; arg 2; whnf
  k_steps
  all_goals first
    | exact ret _ _ _ _ _ T ((Ext.refl T).mono (by decide)) (by assumption) (by assumption) (Fr.keep (by assumption)) (News.get (by assumption) (.head _))
    | exact ret _ _ _ _ _ (T ++ [x.toList]) ⟨_, rfl, Nat.le_refl _⟩ (by assumption) (by assumption) (Fr.keep (by assumption)) (News.get (by assumption) (.head _))
end
end -- S3
section -- S0
/-! the plain law: trees over a growing hash -/
def sub (f : Nat → Oct) (o : Nat) : Nat → Oct := fun i => f (i + o)
theorem sub_zero (f : Nat → Oct) : sub f 0 = f := rfl
theorem sub_sub (f : Nat → Oct) (a b : Nat) : sub (sub f a) b = sub f (a + b) := by
  funext i; unfold sub; congr 1; omega
def Tr (T : List Oct) : Nat → (Nat → Oct) → Oct → Prop
  | 0, f, h => hsh T (f 0) = some h
  | k + 1, f, h => ∃ a b, Tr T k f a ∧ Tr T k (sub f (2 ^ k)) b ∧ hsh T (a ++ b) = some h
theorem Tr.ext {n : Nat} {T T' : List Oct} (e : Ext n T T') : ∀ {k : Nat} {f : Nat → Oct} {h : Oct}, Tr T k f h → Tr T' k f h
  | 0, _, _, x => e.hsh x
  | _ + 1, _, _, ⟨a, b, x, y, z⟩ => ⟨a, b, Tr.ext e x, Tr.ext e y, e.hsh z⟩
theorem Tr.det {T : List Oct} : ∀ {k : Nat} {f : Nat → Oct} {h h' : Oct}, Tr T k f h → Tr T k f h' → h = h'
  | 0, _, _, _, x, y => Option.some.inj (x.symm.trans y)
  | _ + 1, _, _, _, ⟨a, b, x, y, z⟩, ⟨a', b', x', y', z'⟩ => by
    rw [Tr.det x x', Tr.det y y'] at z
    exact Option.some.inj (z.symm.trans z')
theorem Tr.congr {T : List Oct} : ∀ {k : Nat} {f g : Nat → Oct} {h : Oct}, Tr T k f h → (∀ i, i < 2 ^ k → f i = g i) → Tr T k g h
  | 0, f, g, h, x, e => by unfold Tr at *; rwa [← e 0 (by simp)]
  | k + 1, f, g, h, ⟨a, b, x, y, z⟩, e => ⟨a, b, Tr.congr x (fun i hi => e i (by rw [Nat.pow_succ]; omega)), Tr.congr y (fun i hi => e (i + 2 ^ k) (by rw [Nat.pow_succ]; omega)), z⟩
theorem Tr.len {T : List Oct} : ∀ {k : Nat} {f : Nat → Oct} {h : Oct}, Tr T k f h → h.length = 32
  | 0, _, _, x => hsh_len x
  | _ + 1, _, _, ⟨_, _, _, _, z⟩ => hsh_len z

/-- the tree's nodes stand in a base -/
def In (T : List Oct) (D : List (Oct × Oct)) : Nat → (Nat → Oct) → Oct → Prop
  | 0, f, h => hsh T (f 0) = some h ∧ look D h = some (f 0)
  | k + 1, f, h => ∃ a b, In T D k f a ∧ In T D k (sub f (2 ^ k)) b ∧ hsh T (a ++ b) = some h ∧ look D h = some (a ++ b)
theorem In.tr {T : List Oct} {D : List (Oct × Oct)} : ∀ {k : Nat} {f : Nat → Oct} {h : Oct}, In T D k f h → Tr T k f h
  | 0, _, _, x => x.1
  | _ + 1, _, _, ⟨a, b, x, y, z, _⟩ => ⟨a, b, x.tr, y.tr, z⟩
def Over (D D' : List (Oct × Oct)) : Prop := ∀ h x, look D h = some x → look D' h = some x
theorem Over.refl (D : List (Oct × Oct)) : Over D D := fun _ _ x => x
theorem Over.trans {D D' D'' : List (Oct × Oct)} (a : Over D D') (b : Over D' D'') : Over D D'' := fun h x e => b h x (a h x e)
theorem In.over {n : Nat} {T T' : List Oct} {D D' : List (Oct × Oct)} (e : Ext n T T') (o : Over D D') : ∀ {k : Nat} {f : Nat → Oct} {h : Oct}, In T D k f h → In T' D' k f h
  | 0, _, _, ⟨x, y⟩ => ⟨e.hsh x, o _ _ y⟩
  | _ + 1, _, _, ⟨a, b, x, y, z, u⟩ => ⟨a, b, In.over e o x, In.over e o y, e.hsh z, o _ _ u⟩
theorem In.congr {T : List Oct} {D : List (Oct × Oct)} : ∀ {k : Nat} {f g : Nat → Oct} {h : Oct}, In T D k f h → (∀ i, i < 2 ^ k → f i = g i) → In T D k g h
  | 0, f, g, h, x, e => by unfold In at *; rwa [← e 0 (by simp)]
  | k + 1, f, g, h, ⟨a, b, x, y, z⟩, e => ⟨a, b, In.congr x (fun i hi => e i (by rw [Nat.pow_succ]; omega)), In.congr y (fun i hi => e (i + 2 ^ k) (by rw [Nat.pow_succ]; omega)), z⟩
/-- what the base holds is what its hash says -/
def DbOk (T : List Oct) (D : List (Oct × Oct)) : Prop := ∀ h x, look D h = some x → hsh T x = some h
theorem DbOk.ext {n : Nat} {T T' : List Oct} {D : List (Oct × Oct)} (e : Ext n T T') (x : DbOk T D) : DbOk T' D := fun h y l => e.hsh (x h y l)
theorem DbOk.put {T : List Oct} {D : List (Oct × Oct)} (ok : DbOk T D) {h x : Oct} (e : hsh T x = some h) : DbOk T (put D h x) := fun h' x' l => by
  by_cases q : h' = h
  · subst q; rw [look_put_self] at l; cases l; exact e
  · rw [look_put_ne _ _ q] at l; exact ok _ _ l
theorem DbOk.over {T : List Oct} {D : List (Oct × Oct)} (hT : T.length < 2 ^ 60) (ok : DbOk T D) {h x : Oct} (e : hsh T x = some h) : Over D (Smt.put D h x) := fun h' x' l => by
  by_cases q : h' = h
  · subst q; rw [look_put_self, hsh_inj hT (ok _ _ l) e]
  · rw [look_put_ne _ _ q]; exact l
theorem DbOk.nil (T : List Oct) : DbOk T [] := fun h x l => by cases l

/-! numbers of a way -/
def low (p l : Nat) : Nat := p / 2 ^ l * 2 ^ l
def other (p l : Nat) : Nat := if p / 2 ^ l % 2 = 0 then low p l + 2 ^ l else low p l - 2 ^ l
theorem low_succ_even {p l : Nat} (h : p / 2 ^ l % 2 = 0) : low p l = low p (l + 1) := by
  unfold low
  rw [Nat.pow_succ, ← Nat.div_div_eq_div_mul]
  have : p / 2 ^ l = p / 2 ^ l / 2 * 2 := by omega
  conv => lhs; rw [this]
  rw [Nat.mul_assoc, Nat.mul_comm 2]
theorem low_succ_odd {p l : Nat} (h : p / 2 ^ l % 2 = 1) : low p l = low p (l + 1) + 2 ^ l := by
  unfold low
  rw [Nat.pow_succ, ← Nat.div_div_eq_div_mul]
  have : p / 2 ^ l = p / 2 ^ l / 2 * 2 + 1 := by omega
  conv => lhs; rw [this]
  rw [Nat.add_mul, Nat.one_mul, Nat.mul_assoc, Nat.mul_comm 2]
theorem other_even {p l : Nat} (h : p / 2 ^ l % 2 = 0) : other p l = low p (l + 1) + 2 ^ l := by
  unfold other; rw [if_pos h, low_succ_even h]
theorem other_odd {p l : Nat} (h : p / 2 ^ l % 2 = 1) : other p l = low p (l + 1) := by
  unfold other; rw [if_neg (by omega), low_succ_odd h]; omega
theorem low_top {p d : Nat} (h : p < 2 ^ d) : low p d = 0 := by unfold low; rw [Nat.div_eq_of_lt h, Nat.zero_mul]
theorem low_zero (p : Nat) : low p 0 = p := by unfold low; simp
theorem low_le (p l : Nat) : low p l ≤ p := Nat.div_mul_le_self p _
theorem low_lt (p l : Nat) : p < low p l + 2 ^ l := by
  unfold low
  have := Nat.div_add_mod p (2 ^ l)
  have h2 := Nat.mod_lt p (Nat.two_pow_pos l)
  rw [Nat.mul_comm] at this; omega

/-- beside the way: level by level from the top -/
def Sibs (T : List Oct) (f : Nat → Oct) (p d : Nat) (bs : List Oct) : Prop := bs.length = d ∧ ∀ l, l < d → ∃ h, bs[d - 1 - l]? = some h ∧ Tr T l (sub f (other p l)) h
/-- on the way -/
def Ons (T : List Oct) (f : Nat → Oct) (p d : Nat) (bs : List Oct) : Prop := bs.length = d ∧ ∀ l, l < d → ∃ h, bs[d - 1 - l]? = some h ∧ Tr T l (sub f (low p l)) h
theorem lists_eq {d : Nat} {P : Nat → Oct → Prop} (det : ∀ l h h', P l h → P l h' → h = h') {xs ys : List Oct} (hx : xs.length = d ∧ ∀ l, l < d → ∃ h, xs[d - 1 - l]? = some h ∧ P l h) (hy : ys.length = d ∧ ∀ l, l < d → ∃ h, ys[d - 1 - l]? = some h ∧ P l h) : xs = ys := by
  refine List.ext_getElem? fun i => ?_
  by_cases hi : i < d
  · obtain ⟨h, e, p⟩ := hx.2 (d - 1 - i) (by omega)
    obtain ⟨h', e', p'⟩ := hy.2 (d - 1 - i) (by omega)
    rw [show d - 1 - (d - 1 - i) = i by omega] at e e'
    rw [e, e', det _ _ _ p p']
  · rw [List.getElem?_eq_none (by omega), List.getElem?_eq_none (by omega)]
theorem Sibs.eq {T : List Oct} {f : Nat → Oct} {p d : Nat} {xs ys : List Oct} (hx : Sibs T f p d xs) (hy : Sibs T f p d ys) : xs = ys := lists_eq (fun _ _ _ a b => a.det b) hx hy
theorem Ons.eq {T : List Oct} {f : Nat → Oct} {p d : Nat} {xs ys : List Oct} (hx : Ons T f p d xs) (hy : Ons T f p d ys) : xs = ys := lists_eq (fun _ _ _ a b => a.det b) hx hy
theorem Sibs.ext {n : Nat} {T T' : List Oct} (e : Ext n T T') {f : Nat → Oct} {p d : Nat} {xs : List Oct} (h : Sibs T f p d xs) : Sibs T' f p d xs := ⟨h.1, fun l hl => let ⟨a, x, y⟩ := h.2 l hl; ⟨a, x, y.ext e⟩⟩
theorem Ons.ext {n : Nat} {T T' : List Oct} (e : Ext n T T') {f : Nat → Oct} {p d : Nat} {xs : List Oct} (h : Ons T f p d xs) : Ons T' f p d xs := ⟨h.1, fun l hl => let ⟨a, x, y⟩ := h.2 l hl; ⟨a, x, y.ext e⟩⟩

/-- one step down of a reading -/
theorem In.down {T : List Oct} {D : List (Oct × Oct)} {f : Nat → Oct} {p k : Nat} {h : Oct} (x : In T D (k + 1) (sub f (low p (k + 1))) h) :
    ∃ a b, look D h = some (a ++ b) ∧ a.length = 32 ∧ b.length = 32 ∧ (p / 2 ^ k % 2 = 0 → In T D k (sub f (low p k)) a ∧ Tr T k (sub f (other p k)) b) ∧ (p / 2 ^ k % 2 = 1 → In T D k (sub f (low p k)) b ∧ Tr T k (sub f (other p k)) a) := by
  obtain ⟨a, b, ha, hb, _, hl⟩ := x
  rw [sub_sub] at hb
  refine ⟨a, b, hl, ha.tr.len, hb.tr.len, fun e => ⟨?_, ?_⟩, fun e => ⟨?_, ?_⟩⟩
  · rw [low_succ_even e]; exact ha
  · rw [other_even e]; exact hb.tr
  · rw [low_succ_odd e]; exact hb
  · rw [other_odd e]; exact ha.tr
/-- the trees beside the way stand in the base -/
theorem In.beside {T : List Oct} {D : List (Oct × Oct)} {f : Nat → Oct} {p : Nat} : ∀ {d : Nat} {h : Oct}, In T D d (sub f (low p d)) h → ∀ l, l < d → ∃ a, In T D l (sub f (other p l)) a
  | d + 1, h, x, l, hl => by
    obtain ⟨a, b, ha, hb, _, _⟩ := x
    rw [sub_sub] at hb
    have c : p / 2 ^ d % 2 = 0 ∨ p / 2 ^ d % 2 = 1 := by omega
    by_cases e : l = d
    · subst e
      rcases c with c | c
      · rw [other_even c]; exact ⟨b, hb⟩
      · rw [other_odd c]; exact ⟨a, ha⟩
    · rcases c with c | c
      · rw [← low_succ_even c] at ha; exact In.beside ha l (by omega)
      · rw [← low_succ_odd c] at hb; exact In.beside hb l (by omega)
def upd (f : Nat → Oct) (p : Nat) (v : Oct) : Nat → Oct := fun i => if i = p then v else f i
theorem sub_upd_off {f : Nat → Oct} {p l : Nat} {v : Oct} (i : Nat) (hi : i < 2 ^ l) : sub f (other p l) i = sub (upd f p v) (other p l) i := by
  unfold sub upd
  rw [if_neg]
  intro e
  have h1 := low_le p l
  have h2 := low_lt p l
  unfold other at e
  split at e
  · omega
  · rename_i c
    have : 2 ^ l ≤ low p l := by
      unfold low
      have : 1 ≤ p / 2 ^ l := by
        generalize p / 2 ^ l = z at c
        omega
      calc 2 ^ l = 1 * 2 ^ l := by omega
        _ ≤ p / 2 ^ l * 2 ^ l := Nat.mul_le_mul_right _ this
    omega
/-- the text of the node over the way at a level, its children in the base -/
def Node (T : List Oct) (D : List (Oct × Oct)) (f : Nat → Oct) (p : Nat) : Nat → Oct → Prop
  | 0, x => x = f p
  | k + 1, x => ∃ a b, In T D k (sub f (low p (k + 1))) a ∧ In T D k (sub f (low p (k + 1) + 2 ^ k)) b ∧ x = a ++ b
theorem Node.put {T : List Oct} {D : List (Oct × Oct)} {f : Nat → Oct} {p k : Nat} {x h : Oct} (hT : T.length < 2 ^ 60) (ok : DbOk T D) (n : Node T D f p k x) (e : hsh T x = some h) : In T (put D h x) k (sub f (low p k)) h := by
  have o := ok.over hT e
  cases k with
  | zero =>
    have hx : x = f p := n
    refine ⟨?_, ?_⟩
    · show hsh T (f (0 + low p 0)) = some h; rw [low_zero, Nat.zero_add, ← hx]; exact e
    · show look _ h = some (f (0 + low p 0)); rw [low_zero, Nat.zero_add, ← hx]; exact look_put_self ..
  | succ k =>
    obtain ⟨a, b, ha, hb, rfl⟩ := n
    exact ⟨a, b, In.over (Ext.refl T) o ha, by rw [sub_sub]; exact In.over (Ext.refl T) o hb, e, look_put_self ..⟩
theorem Node.ext {n : Nat} {T T' : List Oct} {D D' : List (Oct × Oct)} (e : Ext n T T') (o : Over D D') {f : Nat → Oct} {p k : Nat} {x : Oct} (h : Node T D f p k x) : Node T' D' f p k x := by
  cases k with
  | zero => exact h
  | succ k => obtain ⟨a, b, ha, hb, rfl⟩ := h; exact ⟨a, b, ha.over e o, hb.over e o, rfl⟩
theorem Node.up {T : List Oct} {D : List (Oct × Oct)} {f : Nat → Oct} {p k : Nat} {h s : Oct} (x : In T D k (sub f (low p k)) h) (y : In T D k (sub f (other p k)) s) :
    (p / 2 ^ k % 2 = 0 → Node T D f p (k + 1) (h ++ s)) ∧ (p / 2 ^ k % 2 = 1 → Node T D f p (k + 1) (s ++ h)) := by
  refine ⟨fun c => ⟨h, s, ?_, ?_, rfl⟩, fun c => ⟨s, h, ?_, ?_, rfl⟩⟩
  · rwa [← low_succ_even c]
  · rwa [← other_even c]
  · rwa [← other_odd c]
  · rwa [← low_succ_odd c]
end -- S0
section -- S5
def AllNe (a : Nat) : List (Addr × Obj) → Prop
  | [] => True
  | p :: r => @Ne Nat p.1 a ∧ AllNe a r
theorem allNe_of {a : Addr} : ∀ {l : List (Addr × Obj)}, (∀ p ∈ l, p.1 ≠ a) → AllNe a l
  | [], _ => trivial
  | p :: _, h => ⟨h p (.head _), allNe_of fun q hq => h q (.tail _ hq)⟩
theorem allNe_lt {a : Addr} {l : List (Addr × Obj)} (h : ∀ p ∈ l, p.1 < a) : AllNe a l := allNe_of fun p hp => Nat.ne_of_lt (h p hp)
theorem AllNe.all {a : Addr} {l : List (Addr × Obj)} (h : AllNe a l) : ∀ p ∈ l, p.1 ≠ a := by
  induction l with
  | nil => intro q hq; cases hq
  | cons p r ih =>
    intro q hq
    rcases List.mem_cons.mp hq with e | hq
    · rw [e]; exact h.1
    · exact ih h.2 q hq

/-- behind: the ends as letters, so that the walk's terms stay small -/
theorem wpGen {M : Model} {A : Around} {α : Type} {t : Sem α} {Q : α → Shared → Prop} {E : Value → Shared → Prop} {s : Shared} (h : ∀ (P : α → Shared → Prop) (E' : Value → Shared → Prop), (∀ v s', Q v s' → P v s') → (∀ e s', E e s' → E' e s') → wpAny M A t P E' s) : wpAny M A t Q E s := h Q E (fun _ _ x => x) (fun _ _ x => x)
theorem wpGenE {M : Model} {A : Around} {α : Type} {t : Sem α} {Q : α → Shared → Prop} {E : Value → Shared → Prop} {s : Shared} (h : ∀ E' : Value → Shared → Prop, (∀ e s', E e s' → E' e s') → wpAny M A t Q E' s) : wpAny M A t Q E s := h E (fun _ _ x => x)
theorem wpE {M : Model} {A : Around} {α : Type} {t : Sem α} {Q : α → Shared → Prop} {E E' : Value → Shared → Prop} {s : Shared} (h : ∀ e s', E e s' → E' e s') (k : wpAny M A t Q E s) : wpAny M A t Q E' s := wpAny_mono k (fun _ _ x => x) h
theorem wpGenQ {M : Model} {A : Around} {α : Type} {t : Sem α} {Q : α → Shared → Prop} {E : Value → Shared → Prop} {s : Shared} (h : ∀ P : α → Shared → Prop, (∀ v s', Q v s' → P v s') → wpAny M A t P E s) : wpAny M A t Q E s := h Q (fun _ _ x => x)
def FinQ {α : Type} (P : α → Shared → Prop) : α → Shared → Prop := P
theorem finOut {α : Type} {P Q : α → Shared → Prop} {v : α} {s : Shared} (h : ∀ v s', Q v s' → P v s') (k : Q v s) : FinQ P v s := h _ _ k
theorem execsGen {M : Model} {A : Around} {st : Stmt} {rest : List Stmt} {env : Env} {Q : Flow → Shared → Prop} {E : Value → Shared → Prop} {s : Shared}
    (h : ∀ P : Flow → Shared → Prop, (∀ f s', (match f with | .next => wpAny M A (execs rest env) Q E s' | f => Q f s') → P f s') → wpAny M A (exec st env) (FinQ P) E s) : wpAny M A (execs (st :: rest) env) Q E s :=
  wpAny_execs_cons (h _ (fun _ _ x => x))
theorem AllNe.at1 {a b : Nat} {o : Obj} {l : List (Addr × Obj)} (h : AllNe a l) (m : (b, o) ∈ l) : b ≠ a := h.all _ m
theorem AllNe.at2 {a b : Nat} {o : Obj} {l : List (Addr × Obj)} (h : AllNe a l) (m : (b, o) ∈ l) : a ≠ b := fun e => h.all _ m e.symm
section
variable {prog : Program} {w : World} {A : Around} {E : Value → Shared → Prop} {s : Shared} {env : Env} {h₀ : Heap} {x : Str} {body : List Stmt} {Q : Flow → Shared → Prop}
def TurnNext (h₀ : Heap) (L I : Addr) (oI : Obj) (J : (Str → Option Value) → List (Addr × Obj) → Prop) (s s₂ : Shared) : Prop :=
  ∃ h' tk m' news', s₂ = { s with heap := h', toks := tk } ∧ Fr h₀ L h' m' ∧ News h₀ L h' ((I, oI) :: news') ∧ AllNe I news' ∧ J m' news'
def TurnEnd (h₀ : Heap) (L I : Addr) (oI : Obj) (J : (Str → Option Value) → List (Addr × Obj) → Prop) (s : Shared) (Q : Flow → Shared → Prop) (f : Flow) (s₂ : Shared) : Prop :=
  match f with
  | .ret v => Q (.ret v) s₂
  | .brk => Q .next s₂
  | _ => TurnNext h₀ L I oI J s s₂
theorem loop_one {I : Addr} {fp : List Addr} {n : Nat} {P : Nat → Value → Prop} {St : Nat → Heap → Prop} {m₀ : Str → Option Value} {news : List (Addr × Obj)} (J : Nat → (Str → Option Value) → List (Addr × Obj) → Prop)
    (W : Walks prog w A I fp [I] n P St) (hIf : I ∈ fp) (hL : env.locals ∉ fp) (hI : h₀.get? I = none) (hfp : ∀ b ∈ fp, b = I ∨ (∃ o, h₀.get? b = some o) ∨ ∃ o, ∀ i m nx, J i m nx → (b, o) ∈ nx)
    (hst : St 0 s.heap) (hsI : ∀ i h, St i h → ∃ o, h.get? I = some o) (F : Fr h₀ env.locals s.heap m₀) (N : News h₀ env.locals s.heap news) (hn : ∀ p ∈ news, p.1 ≠ I) (hj : J 0 m₀ news)
    (turn : ∀ i v m₁ news₁ h tk oI, i < n → P i v → J i m₁ news₁ → AllNe I news₁ → Fr h₀ env.locals h (fun y => if y = x then some v else m₁ y) → News h₀ env.locals h ((I, oI) :: news₁) →
      wpAny (model prog w) A (execs body env) (TurnEnd h₀ env.locals I oI (J (i + 1)) { s with heap := h, toks := tk } Q) E { s with heap := h, toks := tk })
    (done : ∀ m₁ news₁ h tk, J n m₁ news₁ → Fr h₀ env.locals h m₁ → News h₀ env.locals h news₁ → Q .next { s with heap := h, toks := tk }) :
    LoopAtV prog w A h₀ env x body Q E (.ref I) s := by
  refine ⟨I, fp, [I], n, P, St, m₀, news, J, rfl, W, hL, ?_, ?_, hst, F, N, hj, ?_, ?_⟩
  · intro b hb; rw [List.mem_singleton.mp hb]; exact hI
  · intro p hp hq; exact hn p hp (List.mem_singleton.mp hq)
  · rintro i v m₁ news₁ s₁ own ⟨hh', tk', rfl⟩ hin hP hJ hoff hown hget hall hst' F₁ N₁
    obtain ⟨oI, hoI⟩ := hsI _ _ hst'
    have hmem := hall I hIf hI oI hoI
    have N₂ : News h₀ env.locals hh' ((I, oI) :: news₁) := fun p hp => by
      rcases List.mem_cons.mp hp with rfl | hp
      · exact N₁ _ (List.mem_append_left _ hmem)
      · exact N₁ _ (List.mem_append_right _ hp)
    have hne : ∀ p ∈ news₁, p.1 ≠ I := fun p hp hq => hoff p hp (List.mem_singleton.mpr hq)
    refine wpAny_mono (turn i v m₁ news₁ hh' tk' oI hin hP hJ (allNe_of hne) F₁ N₂) (fun f s₂ p => ?_) fun _ _ e => e
    have fin : TurnNext h₀ env.locals I oI (J (i + 1)) { s with heap := hh', toks := tk' } s₂ → LoopStepU h₀ env.locals [I] own (J (i + 1)) { s with heap := hh', toks := tk' } .next s₂ := by
      rintro ⟨h', tk, m', news', e, F', N', hne', hJ'⟩
      refine ⟨rfl, h', tk, m', news', e, F', fun p hp => ?_, fun p hp hq => hne'.all p hp (List.mem_singleton.mp hq), hJ'⟩
      rcases List.mem_append.mp hp with hp | hp
      · have hg := hget p hp
        rcases hfp p.1 (hown p hp) with e | ⟨o, e⟩ | ⟨o, e⟩
        · rw [e] at hg
          have : p = (I, oI) := Prod.ext e (Option.some.inj (hg.symm.trans hoI))
          rw [this]; exact N' _ (.head _)
        · have := (N₁ p (List.mem_append_left _ hp)).2.2
          rw [e] at this; cases this
        · have h1 := (N₂ (p.1, o) (.tail _ (e _ _ _ hJ))).1
          have h2 : p.2 = o := Option.some.inj (hg.symm.trans h1)
          have : p = (p.1, o) := Prod.ext rfl h2
          rw [this]; exact N' _ (.tail _ (e _ _ _ hJ'))
      · exact N' _ (.tail _ hp)
    cases f with
    | ret v => exact .ret p
    | brk => exact .brk p
    | next => exact .next (fin p)
    | cont => exact .cont (fin p)
  · rintro h' tk m' news' F' N' _ hJ
    exact done m' news' h' tk hJ F' N'

/-- a range from nought -/
theorem iter_upto {r : Addr} {n : Nat} {t₀ u₀ v₀ : Tok} {m₀ : Str → Option Value} {news : List (Addr × Obj)} (J : Nat → (Str → Option Value) → List (Addr × Obj) → Prop)
    (hh : A.handled = none) (hr : IsRange s.heap r 0 n 1 t₀ u₀ v₀) (hn : n ≤ 1000) (F : Fr h₀ env.locals s.heap m₀) (N : News h₀ env.locals s.heap news) (hj : J 0 m₀ news)
    (turn : ∀ (i : Nat) t m₁ news₁ h tk I oI, i < n → J i m₁ news₁ → AllNe I news₁ → Fr h₀ env.locals h (fun y => if y = x then some (.int (i : Int) t) else m₁ y) → News h₀ env.locals h ((I, oI) :: news₁) →
      wpAny (model prog w) A (execs body env) (TurnEnd h₀ env.locals I oI (J (i + 1)) { s with heap := h, toks := tk } Q) E { s with heap := h, toks := tk })
    (done : ∀ m₁ news₁ h tk, J n m₁ news₁ → Fr h₀ env.locals h m₁ → News h₀ env.locals h news₁ → Q .next { s with heap := h, toks := tk }) :
    wpAny (model prog w) A (pyIter (.ref r)) (fun it s₂ => LoopAtV prog w A h₀ env x body Q E it s₂) E s := by
  have hsz : Builtin.Range.rangeSize 0 (n : Int) 1 = (n : Int) := by
    unfold Builtin.Range.rangeSize
    split <;> split <;> omega
  have hsm : Builtin.Range.small 0 (n : Int) 1 = true := by
    unfold Builtin.Range.small
    rw [hsz, if_pos (by decide)]
    have fits : ∀ z : Int, -1000 ≤ z → z ≤ 2000 → Builtin.Range.rangeFitsLong z = true := fun z h1 h2 => by
      unfold Builtin.Range.rangeFitsLong
      simp only [Bool.and_eq_true, decide_eq_true_eq]
      omega
    rw [fits 0 (by omega) (by omega), fits n (by omega) (by omega), fits 1 (by omega) (by omega), fits _ (by omega) (by omega)]
    simp
  refine wpAny_pyIter_range hr hsm ?_
  have W : Walks prog w A s.heap.objs.size [s.heap.objs.size] [s.heap.objs.size] n (fun i v => i < n ∧ ∃ t, v = .int (0 + i * 1) t)
      (fun i h => IsRangeIter h s.heap.objs.size (0 + (i : Nat) * 1) ((n : Int) - (i : Nat)) 1) := (Walks.range hh _ 0 1 n).bound
  refine loop_one J W (List.mem_singleton.mpr rfl) ?_ (next_is_new F) (fun b hb => .inl (List.mem_singleton.mp hb)) (by show IsRangeIter _ _ _ _ _; rw [hsz]; simpa using Heap.get?_push_size _ rfl) (fun i h hI => ⟨_, hI⟩) (F.push _)
    (fun p hp => ⟨Heap.get?_push_of_some _ (N p hp).1, (N p hp).2⟩) (fun p hp e => absurd (Heap.lt_size (N p hp).1) (by rw [e]; exact Nat.lt_irrefl _)) hj ?_ done
  · intro hm
    exact absurd F.ns.lt ((List.mem_singleton.mp hm) ▸ Nat.lt_irrefl _)
  · rintro i v m₁ news₁ h tk oI hi ⟨_, t, rfl⟩ hJ hne F' N'
    have e : (0 : Int) + (i : Int) * 1 = (i : Int) := by omega
    rw [e] at F'
    exact turn i t m₁ news₁ h tk _ oI hi hJ hne F' N'
end
end -- S5
local macro_rules | `(tactic| k_lt $h:ident) => `(tactic| (have hAL9 := allLt_of $h; have hAN9 := allNe_lt $h; replace $h := allLt_of $h; simp only [AllLt, and_true] at $h:ident))
section -- S6
def Stop (P : Prop) : Prop := P
theorem stop {P : Prop} (h : Stop P) : P := h
section
variable {g h : Heap} {L a b c : Addr} {oa ob oc : Obj} {rest : List (Addr × Obj)} {P : Prop}
theorem pick1 (N : News g L h ((a, oa) :: rest)) (k : ∀ l, l = a → P) : P := k _ rfl
theorem pick2 (N : News g L h ((a, oa) :: (b, ob) :: rest)) (k : ∀ l, l = b → P) : P := k _ rfl
theorem pick3 (N : News g L h ((a, oa) :: (b, ob) :: (c, oc) :: rest)) (k : ∀ l, l = c → P) : P := k _ rfl
end
section
variable {prog : Program} {w : World} {A : Around} {E : Value → Shared → Prop} {s : Shared} {h₀ : Heap} {L : Addr} {m : Str → Option Value} {news : List (Addr × Obj)}
theorem ne_same {n : Int} {t u : Tok} {Q : Value → Shared → Prop} (h : Q (.bool false) s) : wpAny (model prog w) A (compareOp .NotEq (.int n t) (.int n u)) Q E s := by
  refine ne_int ?_
  simpa using h
theorem from_big {x : Addr} {b : Array UInt8} {t u : Tok} {p : Nat} {Q : Value → Shared → Prop} (N : News h₀ L s.heap news) (hm : (x, KFB.bound) ∈ news) (hl : b.size ≤ 8) (hp : value (oInts b.toList) = (p : Int))
    (h : ∀ t' k, Q (.int (p : Int) t') { s with toks := k }) : wpAny (model prog w) A (call (.ref x) [.bytes b t, .str (PySem.Str.ofString "big") u]) Q E s :=
  KFB.call_big N hm (ks := oInts b.toList) rfl (by simp only [oInts, List.length_map, Array.length_toList]; exact hl) fun t' k => by
    have e : KFB.value (oInts b.toList) = (p : Int) := hp
    rw [e]; exact h t' k
end
end -- S6
section -- S7
theorem lines_s7_1 : True := by
  w_top off
  k_with_none
  (k_with "exec For Name Call cons nil" => (refine stop ?_))
  (k_with "exec For Name Call" => (refine stop ?_))
  (k_with "pyIter ref" => (refine stop ?_))
  (k_with "k_room" => (((try simp only [depth_under_make, depth_under_kw, depth_in1, depth_deeper, depth_caller]); omega)))
  (k_with "compareOp NotEq int int" => (refine ne_same ?_))
  (k_with "call ref" => ((k_here; (with_reducible show wpAny _ _ (call (Value.ref _) [Value.bytes _ _, Value.str _ _]) _ _ _); k_dflt (refine' from_big ?q6N ?q6m ?q6l ?q6p ?_; (case q6N => k_asm); (case q6m => k_mem); (case q6l => omega); (case q6p => assumption)); intro t' k')))
  trivial
theorem fillit7 : PySem.Challenge.rw_iw0038_01.foot = 7 ∧ hd0.heap_1 = hd0.heap_1 := by
  k_fill
  exact ⟨rfl, rfl⟩
section
variable {prog : Program} {w : World} {A : Around} {s : Shared} {g : Heap} {R : Result → Shared → Prop} {b : Array UInt8} {t u : Tok} {n : Int}
set_option maxHeartbeats 4000000 in
theorem valid_bytes (S : Site w A g s.heap) (hroom : A.depth + 3 < recursionLimit) (ret : ∀ h' tk', (∀ a o, g.get? a = some o → h'.get? a = some o) → R (.ok (.ret .none)) { s with heap := h', toks := tk' }) :
    codeAny (model prog w) A (.call (.ref 34) ⟨[.bytes b t], []⟩) R s := by
  refine enterK (led := []) (binds := [("value", .bytes b t)]) S (fun p hp => nomatch hp) (by k_is) (by k_is) (by omega) (BindsTo.of_eq rfl) (locs rfl) ?_ (by decide) rfl rfl rfl
  intro base fr dp un gd pp loose mean mg mb L h₁ eA B X TT F N l1
  subst eA
  simp only [Ar] at hroom
  k_steps
  exact ret _ _ (Fr.keep (by assumption))
set_option maxHeartbeats 4000000 in
theorem valid_length (S : Site w A g s.heap) (hroom : A.depth + 3 < recursionLimit) (hz : b.size ≤ 1000) (hn : (b.size : Int) = n) (ret : ∀ h' tk', (∀ a o, g.get? a = some o → h'.get? a = some o) → R (.ok (.ret .none)) { s with heap := h', toks := tk' }) :
    codeAny (model prog w) A (.call (.ref 41) ⟨[.bytes b t, .int n u], []⟩) R s := by
  subst hn
  refine enterK (led := []) (binds := [("value", .bytes b t), ("length", .int b.size u)]) S (fun p hp => nomatch hp) (by k_is) (by k_is) (by omega) (BindsTo.of_eq rfl) (locs rfl) ?_ (by decide) rfl rfl rfl
  intro base fr dp un gd pp loose mean mg mb L h₁ eA B X TT F N l1
  subst eA
  simp only [Ar] at hroom
  k_steps
  exact ret _ _ (Fr.keep (by assumption))
end
section
variable {prog : Program} {w : World} {A : Around} {s : Shared} {g : Heap} {E : Value → Shared → Prop} {b : Array UInt8} {t u : Tok} {n : Int} {L : Addr} {m : Str → Option Value} {base : Heap} {fr : List Env} {env : Env} {news : List (Addr × Obj)}
  {p : Program} {loose : List Str} {mean : ExcName → Option Value} {mg mb : Str → Option Value} {A₀ : Around} {Q : Value → Shared → Prop}
/-- a call that keeps all that stands -/
theorem kept_call {f : Value} {args : List Value} {kw : List (Str × Value)} {v : Value} (B : Below A₀ base fr g) (F : Fr g L s.heap m) (X : (hd0.heap_1 w.params).In g) (T : Top p loose mean mg mb g) (N : News g L s.heap news) (hA : A.frames = some (env :: fr)) (hf : env.frame = some L) (hke : env.scope.kind = .function) (hh : A.handled = none)
    (c : ∀ {R : Result → Shared → Prop}, Site w A s.heap s.heap → (∀ h' tk', (∀ a o, s.heap.get? a = some o → h'.get? a = some o) → R (.ok (.ret v)) { s with heap := h', toks := tk' }) → codeAny (model prog w) A (.call f ⟨args, kw⟩) R s)
    (h : ∀ h' tk', Fr g L h' m → News g L h' news → Q v { s with heap := h', toks := tk' }) : wpAny (model prog w) A (call f args kw) Q E s := by
  refine wpAny_call (c (site_of B F X T (led := []) (fun p hp => nomatch hp) hA hf hke hh).1 fun h' tk' k => ?_)
  exact h h' tk' (F.keptAll k) (N.grown k)
theorem call_valid_bytes (B : Below A₀ base fr g) (F : Fr g L s.heap m) (X : (hd0.heap_1 w.params).In g) (T : Top p loose mean mg mb g) (N : News g L s.heap news) (hA : A.frames = some (env :: fr)) (hf : env.frame = some L) (hke : env.scope.kind = .function) (hh : A.handled = none)
    (hroom : A.depth + 3 < recursionLimit) (h : ∀ h' tk', Fr g L h' m → News g L h' news → Q .none { s with heap := h', toks := tk' }) : wpAny (model prog w) A (call (.ref 34) [.bytes b t]) Q E s :=
  kept_call B F X T N hA hf hke hh (fun S k => valid_bytes S hroom k) h
theorem call_valid_length (B : Below A₀ base fr g) (F : Fr g L s.heap m) (X : (hd0.heap_1 w.params).In g) (T : Top p loose mean mg mb g) (N : News g L s.heap news) (hA : A.frames = some (env :: fr)) (hf : env.frame = some L) (hke : env.scope.kind = .function) (hh : A.handled = none)
    (hroom : A.depth + 3 < recursionLimit) (hz : b.size ≤ 1000) (hn : (b.size : Int) = n) (h : ∀ h' tk', Fr g L h' m → News g L h' news → Q .none { s with heap := h', toks := tk' }) : wpAny (model prog w) A (call (.ref 41) [.bytes b t, .int n u]) Q E s :=
  kept_call B F X T N hA hf hke hh (fun S k => valid_length S hroom hz hn k) h
end
end -- S7
section -- S8a
/-! bits and cuts -/
theorem and_pow (p k : Nat) : p &&& 2 ^ k = if p / 2 ^ k % 2 = 1 then 2 ^ k else 0 := by
  refine Nat.eq_of_testBit_eq fun i => ?_
  have e : p.testBit k = decide (p / 2 ^ k % 2 = 1) := Nat.testBit_eq_decide_div_mod_eq
  rw [Nat.testBit_and, Nat.testBit_two_pow]
  by_cases hk : k = i
  · subst hk
    rw [e]
    by_cases h : p / 2 ^ k % 2 = 1
    · rw [if_pos h, Nat.testBit_two_pow]; simp [h]
    · rw [if_neg h]; simp [h]
  · by_cases h : p / 2 ^ k % 2 = 1
    · rw [if_pos h, Nat.testBit_two_pow]; simp [hk]
    · rw [if_neg h]; simp [hk]
theorem clip32 (n : Nat) : clipAt n (32 : Int) = min 32 n := clipAt_nat n 32
section
variable {prog : Program} {w : World} {A : Around} {E : Value → Shared → Prop} {s : Shared}
theorem and_bit {p k : Nat} {tb : Int} {t u : Tok} {Q : Value → Shared → Prop} (htb : tb = ((2 ^ k : Nat) : Int)) (h1 : p / 2 ^ k % 2 = 1 → 0 < tb → Q (.int tb s.toks) { s with toks := s.toks + 1 }) (h0 : p / 2 ^ k % 2 = 0 → Q (.int 0 s.toks) { s with toks := s.toks + 1 }) :
    wpAny (model prog w) A (binaryOp .BitAnd (.int (p : Int) t) (.int tb u)) Q E s := by
  subst htb
  refine and_int ?_
  have e : Builtin.bitAnd (p : Int) ((2 ^ k : Nat) : Int) = ((p &&& 2 ^ k : Nat) : Int) := by
    rw [bitAnd_pp (Int.natCast_nonneg _) (Int.natCast_nonneg _), Int.toNat_natCast, Int.toNat_natCast]
  rw [e, and_pow]
  have hpos : 0 < 2 ^ k := Nat.two_pow_pos k
  by_cases h : p / 2 ^ k % 2 = 1
  · rw [if_pos h]; exact h1 h (by omega)
  · rw [if_neg h]; exact h0 (by omega)
theorem cut_toList (b : Array UInt8) : (KBy.picked b none (some 32)).toList = b.toList.take 32 := by
  rw [KBc.picked_eq]
  simp only [Option.elim, clip32, List.drop_zero, Nat.sub_zero]
  rcases Nat.le_total 32 b.size with h | h
  · rw [Nat.min_eq_left h]
  · rw [Nat.min_eq_right h, List.take_of_length_le (by simp), List.take_of_length_le (by simpa using h)]
theorem rest_toList (b : Array UInt8) : (KBy.picked b (some 32) none).toList = b.toList.drop 32 := by
  rw [KBc.picked_eq]
  simp only [Option.elim, clip32]
  rcases Nat.le_total 32 b.size with h | h
  · rw [Nat.min_eq_left h, List.take_of_length_le (by simp)]
  · rw [Nat.min_eq_right h, List.drop_of_length_le (by simp), List.drop_of_length_le (by simpa using h)]; simp
variable {value slice : PySem.Expr} {b : Array UInt8} {t : Tok} {h₀ : Heap} {L : Addr} {m : PySem.Str → Option Value} {news : List (Addr × Obj)} {Q : Value → Shared → Prop} {x y : Oct}
theorem cut_lo {u : Tok} (hF : Fr h₀ L s.heap m) (hN : News h₀ L s.heap news) (hx : b.toList = x ++ y) (hl : x.length = 32) (hy : y.length = 32)
    (h : ∀ h' c t' k, Fr h₀ L h' m → News h₀ L h' news → c.toList = x → Q (.bytes c t') { s with heap := h', toks := k })
    (hs : subscripted slice false (.bytes b t) (.ref s.heap.objs.size) = operate [.ref s.heap.objs.size, .bytes b t] (getItem (.bytes b t) (.ref s.heap.objs.size)) := by with_unfolding_all rfl)
    (ht : ∀ r, letTemporaryGo value (.bytes b t) r = pure () := by intro _; with_unfolding_all rfl) :
    wpAny (model prog w) A (subscriptTail value slice (.bytes b t) (.ref s.heap.objs.size)) Q E { s with heap := s.heap.push { cls := .type "slice", data := .fields #[.none, .int 32 u, .none] } } :=
  KBc.slice_K hF hN rfl (by constructor) (by constructor) (by rw [KBw.ints_length, ← Array.length_toList, hx, List.length_append]; omega) (fun h' t' k F' N' _ => h h' _ t' k F' N' (by rw [cut_toList, hx, ← hl, List.take_left])) hs ht
theorem cut_hi {u : Tok} (hF : Fr h₀ L s.heap m) (hN : News h₀ L s.heap news) (hx : b.toList = x ++ y) (hl : x.length = 32) (hy : y.length = 32)
    (h : ∀ h' c t' k, Fr h₀ L h' m → News h₀ L h' news → c.toList = y → Q (.bytes c t') { s with heap := h', toks := k })
    (hs : subscripted slice false (.bytes b t) (.ref s.heap.objs.size) = operate [.ref s.heap.objs.size, .bytes b t] (getItem (.bytes b t) (.ref s.heap.objs.size)) := by with_unfolding_all rfl)
    (ht : ∀ r, letTemporaryGo value (.bytes b t) r = pure () := by intro _; with_unfolding_all rfl) :
    wpAny (model prog w) A (subscriptTail value slice (.bytes b t) (.ref s.heap.objs.size)) Q E { s with heap := s.heap.push { cls := .type "slice", data := .fields #[.int 32 u, .none, .none] } } :=
  KBc.slice_K hF hN rfl (by constructor) (by constructor) (by rw [KBw.ints_length, ← Array.length_toList, hx, List.length_append]; omega) (fun h' t' k F' N' _ => h h' _ t' k F' N' (by rw [rest_toList, hx, ← hl, List.drop_left])) hs ht
end
end -- S8a
section -- S8
theorem lines_s8_1 : True := by
  w_top off
  k_with_none
  (k_with "exec For Name Call cons nil" => (refine stop ?_))
  (k_with "exec For Name Call" => (refine stop ?_))
  (k_with "pyIter ref" => (refine stop ?_))
  (k_with "k_room" => (((try simp only [depth_under_make, depth_under_kw, depth_in1, depth_deeper, depth_caller]); omega)))
  (k_with "compareOp NotEq int int" => (refine ne_same ?_))
  (k_with "call ref" => ((k_here; (with_reducible show wpAny _ _ (call (Value.ref _) [Value.bytes _ _, Value.str _ _]) _ _ _); k_dflt (refine' from_big ?q6N ?q6m ?q6l ?q6p ?_; (case q6N => k_asm); (case q6m => k_mem); (case q6l => omega); (case q6p => assumption)); intro t' k')))
  (k_with "z cj" => (first | with_reducible assumption | exact And.left (by with_reducible assumption) | exact And.left (And.right (by with_reducible assumption)) | exact And.left (And.right (And.right (by with_reducible assumption))) | exact And.left (And.right (And.right (And.right (by with_reducible assumption)))) | exact And.left (And.right (And.right (And.right (And.right (by with_reducible assumption))))) | exact And.left (And.right (And.right (And.right (And.right (And.right (by with_reducible assumption)))))) | exact And.left (And.right (And.right (And.right (And.right (And.right (And.right (by with_reducible assumption))))))) | exact And.left (And.right (And.right (And.right (And.right (And.right (And.right (And.right (by with_reducible assumption)))))))) | exact And.right (by with_reducible assumption) | exact And.right (And.right (by with_reducible assumption)) | exact And.right (And.right (And.right (by with_reducible assumption))) | exact And.right (And.right (And.right (And.right (by with_reducible assumption)))) | exact And.right (And.right (And.right (And.right (And.right (by with_reducible assumption))))) | exact And.right (And.right (And.right (And.right (And.right (And.right (by with_reducible assumption)))))) | exact And.right (And.right (And.right (And.right (And.right (And.right (And.right (by with_reducible assumption)))))))))
  (k_with "z ne1" => (first | k_extra "z cj" | (refine Ne.symm ?_; k_extra "z cj") | exact AllNe.at1 (by with_reducible assumption) (by k_mem) | exact AllNe.at2 (by with_reducible assumption) (by k_mem) | omega))
  (k_with "k_ne" => ((refine PySem.W.neN ?_; (try dsimp only); k_extra "z ne1")))
  (k_with "execs cons" => (((with_reducible show wpAny _ _ (execs (Stmt.Assign _ _ _ :: _) _) _ _ _); refine execsGen fun P8 hP8 => ?_)))
  (k_with "execs cons" => (((with_reducible show wpAny _ _ (execs (Stmt.Expr _ _ :: _) _) _ _ _); refine execsGen fun P8 hP8 => ?_)))
  (k_with "execs cons" => (((with_reducible show wpAny _ _ (execs (Stmt.AugAssign _ _ _ _ :: _) _) _ _ _); refine execsGen fun P8 hP8 => ?_)))
  (k_with "FinQ" => ((refine finOut (by with_reducible assumption) ?_; (try dsimp only))))
  (k_with "call ref" => ((k_here; (with_reducible show wpAny _ _ (call (Value.ref 34) [Value.bytes _ _]) _ _ _); k_dflt (refine' call_valid_bytes ?q7B ?q7F ?q7X ?q7T ?q7N ?q7c1 ?q7c2 ?q7c3 ?q7c4 ?q7r ?_; (case q7F => k_asm); (case q7N => k_asm); (case q7B => k_asm); (case q7X => k_asm); (case q7T => k_asm); (case q7c1 => exact rfl); (case q7c2 => exact rfl); (case q7c3 => exact rfl); (case q7c4 => exact rfl); (case q7r => k_room)); intro h' tk' F' N'; (try k_sweep))))
  (k_with "call ref" => ((k_here; (with_reducible show wpAny _ _ (call (Value.ref 41) [Value.bytes _ _, Value.int _ _]) _ _ _); k_dflt (refine' call_valid_length ?q8B ?q8F ?q8X ?q8T ?q8N ?q8c1 ?q8c2 ?q8c3 ?q8c4 ?q8r ?q8z ?q8n ?_; (case q8F => k_asm); (case q8N => k_asm); (case q8B => k_asm); (case q8X => k_asm); (case q8T => k_asm); (case q8c1 => exact rfl); (case q8c2 => exact rfl); (case q8c3 => exact rfl); (case q8c4 => exact rfl); (case q8r => k_room); (case q8z => omega); (case q8n => omega)); intro h' tk' F' N'; (try k_sweep))))
  trivial
theorem fillit8 : PySem.Challenge.rw_iw0038_01.foot = 7 ∧ hd0.heap_1 = hd0.heap_1 := by
  k_fill
  exact ⟨rfl, rfl⟩
theorem find_fb (w : World) : findCls (hd0.heap_1 w.params) (.type "int") (.type "type") (PySem.Str.ofString "from_bytes") = some (.get (.builtin "classmethod_descriptor.__get__") (.builtin "int.from_bytes") .none (.type "int")) := by k_is
abbrev treeEs (w : World) (t1 t2 t3 t4 t5 t6 : Tok) (vsize vdepth vdef vh vdb vroot : Value) : List DictEntry :=
  [⟨PyData.keyHash w.params "_key_size", .str "_key_size" t1, vsize⟩, ⟨PyData.keyHash w.params "depth", .str "depth" t2, vdepth⟩, ⟨PyData.keyHash w.params "_default", .str "_default" t3, vdef⟩,
   ⟨PyData.keyHash w.params "hash_of", .str "hash_of" t4, vh⟩, ⟨PyData.keyHash w.params "db", .str "db" t5, vdb⟩, ⟨PyData.keyHash w.params "root_hash", .str "root_hash" t6, vroot⟩]
/-- the branch so far: the trees beside the way, from the top down -/
def Brs (T : List Oct) (f : Nat → Oct) (p d i : Nat) (bvs : List Value) : Prop := bvs.length = i ∧ ∀ l, d - i ≤ l → l < d → ∃ b t, bvs[d - 1 - l]? = some (.bytes b t) ∧ Tr T l (sub f (other p l)) b.toList
theorem Brs.nil (T : List Oct) (f : Nat → Oct) (p d : Nat) : Brs T f p d 0 [] := ⟨rfl, fun l h1 h2 => absurd h1 (by omega)⟩
theorem Brs.snoc {T : List Oct} {f : Nat → Oct} {p d i : Nat} {bvs : List Value} (h : Brs T f p d i bvs) (hi : i < d) {b : Array UInt8} {t : Tok} (hb : Tr T (d - (i + 1)) (sub f (other p (d - (i + 1)))) b.toList) : Brs T f p d (i + 1) (bvs ++ [.bytes b t]) := by
  refine ⟨by simp [h.1], fun l h1 h2 => ?_⟩
  by_cases e : l = d - (i + 1)
  · subst e
    refine ⟨b, t, ?_, hb⟩
    rw [show d - 1 - (d - (i + 1)) = bvs.length by rw [h.1]; omega]
    simp
  · obtain ⟨c, u, hc, ht⟩ := h.2 l (by omega) h2
    refine ⟨c, u, ?_, ht⟩
    rw [List.getElem?_append_left (by rw [h.1]; omega)]
    exact hc
theorem tb_start {d : Nat} (h : 1 ≤ d) : (1 * 2 ^ ((8 * (d : Int)) - 1).toNat : Int) = ((2 ^ (8 * d - 0) / 2 : Nat) : Int) := by
  have e : (8 * (d : Int) - 1).toNat = 8 * d - 1 := by omega
  rw [e, Nat.sub_zero, show 8 * d = (8 * d - 1) + 1 by omega, Nat.pow_succ, Nat.mul_div_cancel _ (by decide), Nat.add_sub_cancel]
  simp
theorem tb_next {k : Nat} : (((2 ^ k : Nat) : Int).fdiv (2 ^ (1 : Int).toNat)) = ((2 ^ k / 2 : Nat) : Int) := by
  show (((2 ^ k : Nat) : Int).fdiv ((2 : Nat) : Int)) = _
  rw [Int.fdiv_eq_ediv_of_nonneg _ (by decide)]
  rfl
theorem truthy_pos {prog : Program} {w : World} {A : Around} {E : Value → Shared → Prop} {s : Shared} {n : Int} {t : Tok} {Q : Bool → Shared → Prop} (hn : 0 < n) (h : Q true s) : wpAny (model prog w) A (truthy (.int n t)) Q E s := by
  refine truthy_int ?_
  have e : (n != 0) = true := by simp; omega
  rw [e]; exact h
section
variable {T : List Oct} {D : List (Oct × Oct)} {f : Nat → Oct} {p d i : Nat} {bvs : List Value} {a b : Oct} {c c' : Array UInt8} {t : Tok}
theorem get_turn1 (hi : i < d) (hBr : Brs T f p d i bvs) (hod : p / 2 ^ (d - (i + 1)) % 2 = 1 → In T D (d - (i + 1)) (sub f (low p (d - (i + 1)))) b ∧ Tr T (d - (i + 1)) (sub f (other p (d - (i + 1)))) a)
    (hbit : p / 2 ^ (d - (i + 1)) % 2 = 1) (hc : c.toList = a) (hc' : c'.toList = b) : In T D (d - (i + 1)) (sub f (low p (d - (i + 1)))) c'.toList ∧ Brs T f p d (i + 1) (bvs ++ [.bytes c t]) := by
  subst hc hc'
  exact ⟨(hod hbit).1, hBr.snoc hi (hod hbit).2⟩
theorem get_turn0 (hi : i < d) (hBr : Brs T f p d i bvs) (hev : p / 2 ^ (d - (i + 1)) % 2 = 0 → In T D (d - (i + 1)) (sub f (low p (d - (i + 1)))) a ∧ Tr T (d - (i + 1)) (sub f (other p (d - (i + 1)))) b)
    (hbit : p / 2 ^ (d - (i + 1)) % 2 = 0) (hc : c.toList = b) (hc' : c'.toList = a) : In T D (d - (i + 1)) (sub f (low p (d - (i + 1)))) c'.toList ∧ Brs T f p d (i + 1) (bvs ++ [.bytes c t]) := by
  subst hc hc'
  exact ⟨(hev hbit).1, hBr.snoc hi (hev hbit).2⟩
end
def Octs (bvs : List Value) (bs : List Oct) : Prop := bvs.map octOf = bs.map some
theorem Brs.sibs {T : List Oct} {f : Nat → Oct} {p d : Nat} {bvs : List Value} (h : Brs T f p d d bvs) : ∃ bs, Octs bvs bs ∧ Sibs T f p d bs := by
  have key : ∀ {vs : List Value}, (∀ v ∈ vs, ∃ b t, v = .bytes b t) → ∃ bs, Octs vs bs := by
    intro vs
    induction vs with
    | nil => intro _; exact ⟨[], rfl⟩
    | cons v r ih =>
      intro hv
      obtain ⟨b, t, rfl⟩ := hv v (.head _)
      obtain ⟨bs, hb⟩ := ih fun u hu => hv u (.tail _ hu)
      exact ⟨b.toList :: bs, by unfold Octs at *; simp only [List.map_cons, hb]; rfl⟩
  obtain ⟨bs, hbs⟩ := key (vs := bvs) fun v hv => by
    obtain ⟨j, hj, rfl⟩ := List.mem_iff_getElem.mp hv
    obtain ⟨b, t, e, _⟩ := h.2 (d - 1 - j) (by omega) (by rw [h.1] at hj; omega)
    rw [show d - 1 - (d - 1 - j) = j by rw [h.1] at hj; omega, List.getElem?_eq_getElem hj] at e
    exact ⟨b, t, Option.some.inj e⟩
  refine ⟨bs, hbs, ?_, fun l hl => ?_⟩
  · have := congrArg List.length hbs
    simp only [List.length_map] at this
    rw [← this]; exact h.1
  · obtain ⟨b, t, e, ht⟩ := h.2 l (by omega) hl
    refine ⟨b.toList, ?_, ht⟩
    have h1 : (bvs.map octOf)[d - 1 - l]? = some (some b.toList) := by rw [List.getElem?_map, e]; rfl
    rw [hbs, List.getElem?_map] at h1
    cases q : bs[d - 1 - l]? with
    | none => rw [q] at h1; cases h1
    | some y => rw [q] at h1; simpa using h1
def Fresh (g : Heap) (led : List (Addr × Obj)) (r : Addr) : Prop := g.get? r = none ∧ AllNe r led
theorem ne_of_cls {g h : Heap} {L a b : Addr} {o o' : Obj} {news : List (Addr × Obj)} (N : News g L h news) (h1 : (a, o) ∈ news) (h2 : (b, o') ∈ news) (hc : o.cls ≠ o'.cls) : a ≠ b := fun e => by
  have x := (N _ h1).1
  have y := (N _ h2).1
  rw [e] at x
  dsimp only at x y
  rw [x] at y
  exact hc (by rw [Option.some.inj y])
theorem IsKB.cls {prog : Program} {w : World} {K : Type} [DecidableEq K] {knd : KeyKind prog w K} {o : Obj} {D : List (K × Oct)} (h : IsKB knd o D) : o.cls = .type "dict" := let ⟨_, ⟨_, _, ⟨hc, _⟩, _⟩, _⟩ := h; hc
theorem lines_s8_2 : True := by
  (k_with "getMethod type:int" => ((k_here; k_dflt (refine' KFB.getm ?q9kfbF ?q9kfbN ?q9kfbX (find_fb _) ?_; (case q9kfbF => k_asm); (case q9kfbN => k_asm); (case q9kfbX => k_asm); k_whole; intro x' h' F' N' l1; (try k_lt l1); (try k_sweep)))))
  (k_with "eval Name" => ((k_here; k_dflt (refine' nameX_L ?q10F ?q10v ?_ ?q10a ?q10b; (case q10a => rfl); (case q10b => rfl); (case q10F => k_asm); (case q10v => assumption); k_whole))))
  (k_with "subscriptTail" => ((k_here; (with_reducible show wpAny _ _ (subscriptTail _ _ (Value.ref _) (Value.bytes _ _)) _ _ _); k_dflt (refine' kb_item ?q11N ?q11p ?q11d (bk_is _ _) ?q11l ?_; (case q11N => k_asm); (case q11p => k_mem); (case q11d => assumption); (case q11l => assumption); (intro b' t' hb')))))
  (k_with "subscriptTail" => ((k_here; (with_reducible show wpAny _ _ (subscriptTail _ (Expr.Slice none _ none _) (Value.bytes _ _) (Value.ref _)) _ _ _); (with_reducible rename Fr _ _ _ _ => F'); (with_reducible rename News _ _ _ _ => N'); (refine cut_lo (s := ⟨_, _, _, _, _⟩) F' N' (by assumption) (by assumption) (by assumption) ?_); intro _ _ _ _ _ _ _)))
  (k_with "subscriptTail" => ((k_here; (with_reducible show wpAny _ _ (subscriptTail _ (Expr.Slice _ none none _) (Value.bytes _ _) (Value.ref _)) _ _ _); (with_reducible rename Fr _ _ _ _ => F'); (with_reducible rename News _ _ _ _ => N'); (refine cut_hi (s := ⟨_, _, _, _, _⟩) F' N' (by assumption) (by assumption) (by assumption) ?_); intro _ _ _ _ _ _ _)))
  (k_with "binaryOp BitAnd int int" => ((k_here; refine and_bit (by assumption) (fun hbit hpos => ?_) (fun hbit => ?_))))
  (k_with "loadName" => ((k_here; k_dflt (refine' ldn ?q12F ?q12v ?_ ?q12a ?q12b; (case q12a => rfl); (case q12b => rfl); (case q12F => k_asm); (case q12v => assumption); k_whole))))
  (k_with "truthy int" => ((refine truthy_pos (by assumption) ?_)))
  trivial
section
variable {prog : Program} {w : World} {A : Around} {s : Shared} {g : Heap} {R : Result → Shared → Prop} {fa ta x dx da : Addr} {odb : Obj} {T : List Oct} {D : List (Oct × Oct)} {key dflt root : Array UInt8} {kt t1 t2 t3 t4 t5 t6 u1 u2 u3 u6 : Tok} {size : Nat} {f : Nat → Oct} {p : Nat}
set_option maxHeartbeats 4000000 in
theorem get_ (S : Site w A g s.heap) (hL : Led g s.heap [(x, instObj 140 dx), (dx, dictOf (treeEs w t1 t2 t3 t4 t5 t6 (.int size u1) (.int (8 * size : Int) u2) (.bytes dflt u3) (.ref fa) (.ref da) (.bytes root u6)) 6), (da, odb)])
    (hne : @Ne Nat x dx ∧ @Ne Nat x da ∧ @Ne Nat dx da) (hroom : A.depth + 5 < recursionLimit) (hs1 : 1 ≤ size) (hs2 : size ≤ 2) (hkey : key.size = size) (hp : value (oInts key.toList) = (p : Int)) (hp2 : p < 2 ^ (8 * size)) (hdb : IsKB (bytesKind prog w) odb D)
    (hin : In T D (8 * size) f root.toList)
    (ret : ∀ r q bvs v bs n n' h' tk', (∀ a o, g.get? a = some o → h'.get? a = some o) → (∀ a ∈ [(x, instObj 140 dx), (dx, dictOf (treeEs w t1 t2 t3 t4 t5 t6 (.int size u1) (.int (8 * size : Int) u2) (.bytes dflt u3) (.ref fa) (.ref da) (.bytes root u6)) 6), (da, odb)], h'.get? a.1 = some a.2) →
      h'.get? r = some { cls := .type "tuple", data := .seq #[.bytes v n, .ref q] } → h'.get? q = some { cls := .type "tuple", data := .seq (List.toArray bvs) n' } → Fresh g [(x, instObj 140 dx), (dx, instObj 140 dx), (da, odb)] r → Fresh g [(x, instObj 140 dx), (dx, instObj 140 dx), (da, odb)] q → q ≠ r →
      Octs bvs bs → Sibs T f p (8 * size) bs → v.toList = f p → R (.ok (.ret (.ref r))) { s with heap := h', toks := tk' }) :
    codeAny (model prog w) A (.call (.ref 88) ⟨[.ref x, .bytes key kt], []⟩) R s := by
  refine enterK (binds := [("self", .ref x), ("key", .bytes key kt)]) S hL (by k_is) (by k_is) (by omega) (BindsTo.of_eq rfl) (locs rfl) ?_ (by decide) rfl rfl rfl
  intro base fr dp un gd pp loose mean mg mb L h₁ eA B X TT F N l1
  subst eA
  simp only [Ar] at hroom
  subst hkey
  let od9 : Obj := dictOf (treeEs w t1 t2 t3 t4 t5 t6 (.int key.size u1) (.int (8 * key.size : Int) u2) (.bytes dflt u3) (.ref fa) (.ref da) (.bytes root u6)) 6
  have N : News g L h₁ [(x, instObj 140 dx), (dx, od9), (da, odb)] := N
  k_steps
  unfold Stop
  try dsimp only
  refine For_invV g (by rfl) (by rfl) ?_
  k_steps
  unfold Stop
  with_reducible rename Fr _ _ _ _ => F'
  with_reducible rename News _ _ _ _ => N'
  with_reducible rename IsRange _ _ _ _ _ _ _ _ => hr'
  refine pick2 N' fun l' hl' => ?_
  subst hl'
  try dsimp only
  refine iter_upto (n := 8 * key.size) (fun i m nx => ∃ bvs n nh tn tp tt tb, nx = [(l', listOf bvs.toArray n), (x, instObj 140 dx), (dx, od9), (da, odb)] ∧
    m "self" = some (.ref x) ∧ m "path" = some (.int p tp) ∧ m "branch" = some (.ref l') ∧ m "node_hash" = some (.bytes nh tn) ∧ m "target_bit" = some (.int tb tt) ∧ tb = ((2 ^ (8 * key.size - i) / 2 : Nat) : Int) ∧
    In T D (8 * key.size - i) (sub f (low p (8 * key.size - i))) nh.toList ∧ Brs T f p (8 * key.size) i bvs) rfl hr' (by omega) F' (fun q hq => N' q (.tail _ hq)) ?_ ?_ ?_
  · refine ⟨[], _, root, _, _, _, _, rfl, rfl, rfl, rfl, rfl, rfl, tb_start (by omega), ?_, Brs.nil _ _ _ _⟩
    rw [Nat.sub_zero, low_top hp2, sub_zero]; exact hin
  · intro i t m₁ news₁ h tk I oI hi hJ hne9 F' N'
    refine wpGen fun P9 E9 hP9 hE9 => ?_
    try dsimp only
    obtain ⟨bvs, n, nh, tn, tp, tt, tb, rfl, hm1, hm2, hm3, hm4, hm5, htb, hInn, hBr⟩ := hJ
    have e9 : 8 * key.size - i = (8 * key.size - (i + 1)) + 1 := by omega
    rw [e9] at hInn htb
    obtain ⟨a, b, hlk, hla, hlb, hev, hod⟩ := hInn.down
    rw [Nat.pow_succ, Nat.mul_div_cancel _ (by decide)] at htb
    simp only [AllNe, and_true] at hne9
    have hbl : bvs.length ≤ 100 := by rw [hBr.1]; omega
    k_steps
    all_goals (with_reducible rename Fr _ _ _ _ => F9)
    all_goals (with_reducible rename News _ _ _ _ => N9)
    · have hz := get_turn1 (t := 0) hi hBr hod (by assumption) (by assumption) (by assumption)
      exact hP9 _ _ (show TurnNext _ _ _ _ _ _ _ from ⟨_, _, _, _, rfl, F9, fun q hq => N9 q (.tail _ hq), by simp only [AllNe, and_true]; exact hne9, _, _, _, _, _, _, _, rfl, hm1, hm2, hm3, rfl, rfl, by rw [htb]; exact tb_next,
        hz.1, by simpa using (get_turn1 (D := D) hi hBr hod (by assumption) (by assumption) (by assumption)).2⟩)
    · have hz := get_turn0 (t := 0) hi hBr hev (by assumption) (by assumption) (by assumption)
      exact hP9 _ _ (show TurnNext _ _ _ _ _ _ _ from ⟨_, _, _, _, rfl, F9, fun q hq => N9 q (.tail _ hq), by simp only [AllNe, and_true]; exact hne9, _, _, _, _, _, _, _, rfl, hm1, hm2, hm3, rfl, rfl, by rw [htb]; exact tb_next,
        hz.1, by simpa using (get_turn0 (D := D) hi hBr hev (by assumption) (by assumption) (by assumption)).2⟩)
  · intro m₁ news₁ h tk hJ F' N'
    refine wpGenE fun E8 hE8 => ?_
    obtain ⟨bvs, n, nh, tn, tp, tt, tb, rfl, hm1, hm2, hm3, hm4, hm5, htb, hInn, hBr⟩ := hJ
    rw [Nat.sub_self, low_zero] at hInn
    have hlk : look D nh.toList = some (f p) := by have := hInn.2; simpa [sub] using this
    have hbl : bvs.length ≤ 100 := by rw [hBr.1]; omega
    obtain ⟨bs, hbs, hsib⟩ := hBr.sibs
    k_steps
    with_reducible rename Fr _ _ _ _ => F9
    with_reducible rename News _ _ _ _ => N9
    refine pick1 N9 fun r hr => ?_
    refine pick2 N9 fun q hq => ?_
    subst hr hq
    have q1 := ne_of_cls N9 (.tail _ (.tail _ (.tail _ (.head _)))) (.tail _ (.head _)) (by first | (simp; done) | (simp [od9]; done))
    have q2 := ne_of_cls N9 (.tail _ (.tail _ (.tail _ (.tail _ (.head _))))) (.tail _ (.head _)) (by first | (simp; done) | (simp [od9]; done))
    have q3 := ne_of_cls N9 (.tail _ (.tail _ (.tail _ (.tail _ (.tail _ (.head _)))))) (.tail _ (.head _)) (by rw [hdb.cls]; simp)
    exact ret r q _ _ bs _ _ _ _ F9.keep (fun q hq => (N9 q (.tail _ (.tail _ (.tail _ hq)))).1) (N9 _ (.head _)).1 (N9 _ (.tail _ (.head _))).1 ⟨(N9 _ (.head _)).2.2, Nat.ne_of_lt (by omega), Nat.ne_of_lt (by omega), Nat.ne_of_lt (by omega), trivial⟩ ⟨(N9 _ (.tail _ (.head _))).2.2, q1, q2, q3, trivial⟩ (Nat.ne_of_lt (by omega)) hbs hsib (by assumption)
end
end -- S8
section -- S9
/-! reversed over a tuple -/
namespace Rv
theorem tuple_no_reversed : typeLookup (.type "tuple") "__reversed__" = pure none := by rw [typeLookup_type, builtinLookup_eq_fast]; kernel_rfl
theorem sub_tuple_dict : isSubtype (.type "tuple") (.type "dict") = pure false := by rw [isSubtype_type]; kernel_rfl
theorem slot_init : Slot "reversed" "__init__" "object.__init__" :=
  .of (owner := "object") (n := "__init__") (by rw [typeLookup_type, builtinLookup_eq_fast]; kernel_rfl) (by decide +kernel) (by decide +kernel) (by decide +kernel)
    (by first | exact .inl (by decide +kernel) | exact .inr (by decide +kernel)) (by rw [isSubtype_type]; kernel_rfl)
theorem called : TypeCalled "reversed" "reversed.__new__" "object.__init__" :=
  ⟨by decide +kernel, F.create_reversed, ⟨_, _, F.mro_reversed⟩, F.made_reversed, F.plain_reversed_new, F.sub_reversed_self, slot_init⟩
theorem slot_next : Slot "reversed" "__next__" "reversed.__next__" :=
  .of (owner := "reversed") (n := "__next__") (by rw [typeLookup_type, builtinLookup_eq_fast]; kernel_rfl) (by decide +kernel) (by decide +kernel) (by decide +kernel)
    (by first | exact .inl (by decide +kernel) | exact .inr (by decide +kernel)) (by rw [isSubtype_type]; kernel_rfl)
theorem entry_next : entryFor table "reversed.__next__" = some Builtin.«reversed.__next__» := entryFor_of_tree (by kernel_rfl)
theorem args_next (a : Value) : argsOk "reversed.__next__" ⟨[a], []⟩ := by unfold argsOk; kernel_rfl
theorem slot_iter : Slot "reversed" "__iter__" "reversed.__iter__" :=
  .of (owner := "reversed") (n := "__iter__") (by rw [typeLookup_type, builtinLookup_eq_fast]; kernel_rfl) (by decide +kernel) (by decide +kernel) (by decide +kernel)
    (by first | exact .inl (by decide +kernel) | exact .inr (by decide +kernel)) (by rw [isSubtype_type]; kernel_rfl)
theorem args_iter (a : Value) : argsOk "reversed.__iter__" ⟨[a], []⟩ := by unfold argsOk; kernel_rfl
theorem entry_iter : entryFor table "reversed.__iter__" = some Builtin.«dict_keyiterator.__iter__» :=
  entryFor_alias (id' := "dict_keyiterator.__iter__") (by kernel_rfl) (by first | rfl | decide +kernel | (unfold String.splitOn; simp +decide [String.splitOnAux])) (by decide +kernel) (by kernel_rfl)
def rObj (q : Addr) (i : Int) : Obj := { cls := .type "reversed", data := .fields #[.ref q, rawInt i] }
section
variable {prog : Program} {w : World} {A : Around} {E : Value → Shared → Prop} {s : Shared}
theorem meets_new (q : Addr) (items : Array Value) (hsz : items.size ≤ 1000) :
    Meets (Builtin.«reversed.__new__» ⟨[.type "reversed", .ref q], []⟩) (fun _ R s => IsTup s.heap q items ∧ ∀ tk, R (.ok (.ret (.ref s.heap.objs.size))) { s with heap := s.heap.push (rObj q ((items.size : Int) - 1)), toks := tk }) := by
  refine .of_wp fun prog w A R s hS => ?_
  obtain ⟨hT, h⟩ := hS
  unfold Builtin.«reversed.__new__»
  refine wpAny_bind (wpAny_of_eq (newClass_reversed _) ?_)
  try dsimp only
  refine wpAny_bind (wpAny_of_eq (a := ()) (by first | rfl | kernel_rfl) ?_)
  refine wpAny_bind (wpAny_of_eq (a := ()) (by first | rfl | kernel_rfl) ?_)
  try dsimp only
  refine wpAny_bind (wpAny_specialOf hT.typeIs tuple_no_reversed ?_)
  try dsimp only
  refine wpAny_bind (wpAny_bind (m := isInstance (.ref q) (.type "dict")) (wpAny_isInstance hT.typeIs sub_tuple_dict ?_))
  rw [if_neg Bool.false_ne_true]
  refine wpAny_bind (wpAny_specialOf hT.typeIs slot_tuple_getitem.lookup ?_)
  try dsimp only
  rw [if_pos (by decide)]
  refine wpAny_pure ?_
  rw [if_neg (by decide)]
  refine wpAny_bind (m := call (.builtin "len") [.ref q]) (len_tuple hT (by omega) ?_)
  refine wpAny_bind (wpAny_of_eq (a := some (items.size : Int)) rfl ?_)
  try dsimp only
  refine wpAny_bind (m := Builtin.SmallTypes.newRecord (.type "reversed") [.ref q, rawInt ((items.size : Int) - 1)]) (wpAny_newObj_type (T := "reversed") (data := .fields #[.ref q, rawInt ((items.size : Int) - 1)]) ?_ (by simp [sizeOk]))
  exact wpAny_pure ⟨_, rfl, h _⟩
theorem call_reversed_tuple {q : Addr} {items : Array Value} {Q : Value → Shared → Prop} (hT : IsTup s.heap q items) (hsz : items.size ≤ 1000)
    (h : ∀ tk, Q (.ref s.heap.objs.size) { s with heap := s.heap.push (rObj q ((items.size : Int) - 1)), toks := tk }) : wpAny (model prog w) A (call (.type "reversed") [.ref q]) Q E s :=
  callType_new called (by decide) (F.typeCall_reversed_1 _) (F.newCall_reversed_1 _) (fun obj => F.args_object_init_2 obj _) F.entry_reversed_new (meets_new q items hsz) ⟨hT, fun tk => ⟨⟨_, Heap.get?_push_size _ rfl, rfl⟩, h tk⟩⟩
def IsRv (h : Heap) (a q : Addr) (i : Int) : Prop := ∃ o, h.get? a = some o ∧ o.cls = .type "reversed" ∧ o.data = .fields #[.ref q, rawInt i]
theorem IsRv.typeIs {a q : Addr} {i : Int} (x : IsRv s.heap a q i) : s.TypeIs (.ref a) "reversed" := let ⟨o, ho, hc, _⟩ := x; ⟨o, ho, hc⟩
theorem IsRv.at {h h' : Heap} {a q : Addr} {i : Int} (x : IsRv h a q i) (e : ∀ o, h.get? a = some o → h'.get? a = some o) : IsRv h' a q i := let ⟨o, ho, r⟩ := x; ⟨o, e _ ho, r⟩
theorem next_item {it q : Addr} {i : Nat} {items : Array Value} {x : Value} {Q : Option Value → Shared → Prop} (hit : IsRv s.heap it q (i : Int)) (hT : IsTup s.heap q items) (hx : items[i]? = some x) (hsz : items.size ≤ 1000)
    (hQ : ∀ h' tk, IsRv h' it q ((i : Int) - 1) → Heap.SameBut it s.heap h' → Q (some x) { s with heap := h', toks := tk }) : wpAny (model prog w) A (pyNext (.ref it)) Q E s := by
  obtain ⟨o, ho, hc, hd⟩ := id hit
  have hi : i < items.size := (Array.getElem?_eq_some_iff.mp hx).1
  unfold pyNext
  refine wpAny_bind (wpAny_attempt (wpAny_callSpecial?_slot (name := Str.ofString "__next__") hit.typeIs slot_next
    (wpAny_call_entry slot_next hit.typeIs entry_next ?_ (args_next _))))
  unfold Builtin.«reversed.__next__»
  refine wpAny_bind (wpAny_of_eq (a := (Value.ref it, [])) rfl ?_)
  try dsimp only
  refine wpAny_bind (wpAny_field ho hd (x := .ref q) rfl ?_)
  refine wpAny_bind (wpAny_field ho hd (x := rawInt (i : Int)) rfl ?_)
  show wpAny _ _ (if (i : Int) < 0 then _ else _) _ _ s
  rw [if_neg (by omega)]
  refine wpAny_bind (wpAny_specialOf hT.typeIs slot_tuple_getitem.lookup ?_)
  rw [if_neg (by decide)]
  refine wpAny_bind (wpAny_mkInt ?_)
  have hseq : seqIndex? (i : Int) items.size = some i := by
    have h1 : ¬ ((i : Int) < 0) := by omega
    have h2 : (0 : Int) ≤ (i : Int) := by omega
    have h3 : (i : Int) < (items.size : Int) := by omega
    simp [seqIndex?, h1, h2, h3]
  refine wpAny_bind (wpAny_attempt (getItem_tuple (s := { s with toks := s.toks + 1 }) hT (by omega) (by omega) hseq hx ?_))
  try dsimp only
  refine wpAny_bind (wpAny_field ho hd (x := rawInt (i : Int)) rfl ?_)
  try dsimp only
  refine wpAny_bind (wpAny_setField ho hd (by simp) ?_)
  refine wpAny_pure ⟨x, rfl, wpAny_pure (hQ _ _ ?_ (Heap.SameBut.update ..))⟩
  exact ⟨_, Heap.get?_update_self _ ho (Obj.isFreed_of_fields (Obj.data_mapFields hd _)), (Obj.cls_mapFields ..).trans hc, by
    rw [Obj.data_mapFields hd]; simp⟩
theorem next_end {it q : Addr} {Q : Option Value → Shared → Prop} (hh : A.handled = none) (hit : IsRv s.heap it q (-1))
    (hQ : ∀ h', Heap.ExtBut it s.heap h' → Q none { s with heap := h' }) : wpAny (model prog w) A (pyNext (.ref it)) Q E s := by
  obtain ⟨o, ho, hc, hd⟩ := id hit
  unfold pyNext
  refine wpAny_bind (wpAny_attempt (wpAny_callSpecial?_slot (name := Str.ofString "__next__") hit.typeIs slot_next
    (wpAny_call_entry slot_next hit.typeIs entry_next ?_ (args_next _))))
  unfold Builtin.«reversed.__next__»
  refine wpAny_bind (wpAny_of_eq (a := (Value.ref it, [])) rfl ?_)
  try dsimp only
  refine wpAny_bind (wpAny_field ho hd (x := .ref q) rfl ?_)
  refine wpAny_bind (wpAny_field ho hd (x := rawInt (-1)) rfl ?_)
  show wpAny _ _ (if (-1 : Int) < 0 then _ else _) _ _ s
  rw [if_pos (by decide)]
  refine wpAny_bind (wpAny_rule ?_)
  refine wpAny_bind (wpAny_bind (wpAny_setField ho hd (by simp) ?_))
  have ho2 := Heap.get?_update_self (Obj.mapFields (·.setIfInBounds 1 (rawInt (-1)))) ho (Obj.isFreed_of_fields (Obj.data_mapFields hd _))
  have hd2 := Obj.data_mapFields hd (·.setIfInBounds 1 (rawInt (-1)))
  refine wpAny_setField ho2 hd2 (by simp) ?_
  have hs : Heap.ExtBut it s.heap ((s.heap.update it (Obj.mapFields (·.setIfInBounds 1 (rawInt (-1))))).update it (Obj.mapFields (·.setIfInBounds 0 .none))) := fun b o hb eo =>
    (Heap.SameBut.update ..).extBut b o hb ((Heap.SameBut.update ..).extBut b o hb eo)
  refine wpAny_bind ?_
  show wpAny _ _ (newExc (.type "StopIteration") [] >>= _) _ _ _
  refine wpAny_bind ?_
  simp only [newExc, newTuple]
  refine wpAny_bind (wpAny_newObj_type ?_ (by size_fits))
  refine wpAny_bind (m := firstArgMember _ _) (wpAny_of_eq (a := Value.none) (by first | rfl | (simp only [firstArgMember]; rfl)) ?_)
  refine wpAny_newObj_type ?_ (by size_fits)
  simp only [raiseNew]
  refine wpAny_bind (wpAny_handled ?_)
  first | rw [show A.in1.handled = none from hh] | rw [hh]
  refine wpAny_bind (wpAny_pure (wpAny_throw ?_))
  refine wpAny_bind (wpAny_isInstance (T := "StopIteration") (b := true) ⟨_, Heap.get?_push_size _ rfl, rfl⟩ isSubtype_stop ?_)
  exact wpAny_pure (hQ _ ((hs.push _).push _))
theorem iter_self {it q : Addr} {i : Int} {Q : Value → Shared → Prop} (hit : IsRv s.heap it q i) (h : Q (.ref it) s) : wpAny (model prog w) A (pyIter (.ref it)) Q E s := by
  refine wpAny_pyIter_slot hit.typeIs slot_iter (wpAny_call_entry slot_iter hit.typeIs entry_iter ?_ (args_iter _))
  show wpAny _ _ (ret (.ref it)) _ _ s
  exact wpAny_pure ⟨_, rfl, "reversed", _, hit.typeIs, slot_next.lookup, h⟩
end
theorem walks {prog : Program} {w : World} {A : Around} (hh : A.handled = none) (I q : Addr) (hne : q ≠ I) (items : Array Value) (hsz : items.size ≤ 1000) :
    Walks prog w A I [I, q] [I] items.size (fun i v => items[items.size - 1 - i]? = some v) (fun i h => i ≤ items.size ∧ IsRv h I q ((items.size : Int) - 1 - (i : Int)) ∧ IsTup h q items) where
  sub := fun b hb => by simp at hb; simp [hb]
  frame := fun _ _ _ x hk => ⟨x.1, x.2.1.at fun o e => hk I (by simp) o e, (let ⟨o, eo, r⟩ := x.2.2; ⟨o, hk q (by simp) o eo, r⟩)⟩
  item := fun i s Q E hi x hQ => by
    have e : (items.size : Int) - 1 - (i : Int) = ((items.size - 1 - i : Nat) : Int) := by omega
    have hit := x.2.1
    rw [e] at hit
    have hx : items[items.size - 1 - i]? = some (items[items.size - 1 - i]'(by omega)) := Array.getElem?_eq_getElem (by omega)
    refine next_item hit x.2.2 hx hsz fun h' tk hit' hs' => ?_
    have e2 : ((items.size - 1 - i : Nat) : Int) - 1 = (items.size : Int) - 1 - ((i + 1 : Nat) : Int) := by omega
    rw [e2] at hit'
    exact hQ _ h' tk hx ⟨hi, hit', (let ⟨o, eo, r⟩ := x.2.2; ⟨o, (hs'.2 q hne).trans eo, r⟩)⟩ fun b o hb eo => hs'.extBut b o (fun h => hb (by simp [h])) eo
  done := fun s Q E x hQ => by
    have e : (items.size : Int) - 1 - (items.size : Int) = -1 := by omega
    have hit := x.2.1
    rw [e] at hit
    exact next_end hh hit fun h' he' => hQ h' s.toks fun b o hb eo => he' b o (fun h => hb (by simp [h])) eo
  self := fun _ _ _ _ x hQ => iter_self x.2.1 hQ
end Rv
/-! tuple(reversed(list)) -/
namespace Rl
theorem nolen : typeLookup (.type "list_reverseiterator") "__len__" = pure none := by rw [typeLookup_type, builtinLookup_eq_fast]; kernel_rfl
theorem hint : typeLookup (.type "list_reverseiterator") "__length_hint__" = pure (some (.builtin "list_reverseiterator.__length_hint__")) := by rw [typeLookup_type, builtinLookup_eq_fast]; kernel_rfl
section
variable {prog : Program} {w : World} {A : Around} {E : Value → Shared → Prop} {s : Shared} {I : Addr} {fp wr : List Addr} {G : Array GenState → Array GenState → Prop} {n : Nat} {P : Nat → Value → Prop} {St : Nat → Shared → Prop}
theorem collect_rev {Q : List Value → Shared → Prop}
    (W : WalksS prog w A.in1 I fp wr G n P St) (hT : ∀ i s, St i s → s.TypeIs (.ref I) "list_reverseiterator") (hst : St 0 s) (hfp : ∀ b ∈ fp, b < s.heap.objs.size) (hI : I ∈ fp)
    (hQ : ∀ s' acc, Moved wr G s s' → ItemsOf P acc n → Q acc.toList s') (hn : n ≤ sizeLine) : wpAny (model prog w) A (collect (.ref I)) Q E s := by
  have hSf : s.heap.objs.size ∉ fp := fun hm => Nat.lt_irrefl _ (hfp _ hm)
  have hSI : s.heap.objs.size ≠ I := fun e => hSf (e ▸ hI)
  unfold collect
  refine wpAny_bind (wpAny_runValue (codeAny_builtin F.entry_proto_collect ?_))
  rw [Around.under_plainId F.plain_proto_collect _]
  show wpAny _ A.in1 (newList [] >>= fun l => again (.builtin "list.__iadd__" ⟨[l, .ref I], []⟩)) _ _ s
  refine wpAny_bind (wpAny_newObj_type ?_)
  refine wpAny_pure ⟨plainId_quiet F.plain_list_iadd _, codeAny_builtin F.entry_list_iadd ?_⟩
  rw [Around.under_plainId F.plain_list_iadd _]
  have hst₁ := W.frame 0 s (s.heap.push { cls := .type "list", data := .seq ([] : List Value).toArray }) s.toks hst (Nat.le_refl _) fun b _ o e => Heap.get?_push_of_some _ e
  have hS₁ : (s.heap.push { cls := .type "list", data := .seq ([] : List Value).toArray }).get? s.heap.objs.size = some { cls := .type "list", data := .seq ([] : List Value).toArray } := Heap.get?_push_size _ rfl
  have h1 : Builtin.List.listSameRef (.ref s.heap.objs.size) (.ref I) = false := by simp [Builtin.List.listSameRef, hSI]
  show wpAny _ A.in1 (Builtin.List.listExtendWith (.ref s.heap.objs.size) (.ref I) (.ref s.heap.objs.size)) _ _ _
  unfold Builtin.List.listExtendWith
  refine wpAny_bind (wpAny_typeOf (hT 0 _ hst₁) ?_)
  rw [if_neg (by rw [h1]; decide)]
  refine wpAny_bind (W.self 0 _ _ _ hst₁ ?_)
  refine wpAny_bind (wpAny_holding ?_)
  unfold Builtin.List.listLengthHint
  refine wpAny_bind (wpAny_specialOf (hT 0 _ hst₁) nolen ?_)
  show wpAny _ A.in1 (specialOf (Value.ref I) (Str.ofString "__length_hint__") >>= _) _ _ _
  refine wpAny_bind (wpAny_specialOf (hT 0 _ hst₁) hint ?_)
  (generalize hid : ("list_reverseiterator.__length_hint__" : String) = id0; (fail_if_success (clear hid id0)); wp_delta; rw [show splitId id0 = some ("list_reverseiterator", "__length_hint__") from by subst hid; decide +kernel]; subst hid)
  refine wpAny_bind (wpAny_isInstance (b := true) (hT 0 _ hst₁) (by rw [isSubtype_type]; kernel_rfl) ?_)
  refine wpAny_pure ?_
  rw [if_neg (by decide)]
  refine wpAny_pure ⟨plainId_quiet F.plain_extend_loop _, codeAny_extend_loopS W hn _ hSf _ n 0 _ _ _ rfl (Nat.zero_le _) hst₁ hS₁ (ItemsOf.nil P) fun s' acc' c' hm hS' hacc => ?_⟩
  show wpAny _ A (load s.heap.objs.size >>= _) _ _ s'
  refine wpAny_bind (wpAny_load hS' ?_)
  exact wpAny_pure (hQ s' acc' (Moved.drop_new (o := { cls := .type "list", data := .seq ([] : List Value).toArray }) (tk := s.toks) hm (Nat.le_refl _)) hacc)
theorem code_tuple_new {Q₁ : Value → Shared → Prop} (W : WalksS prog w A.in1.in1 I fp wr G n P St) (hT : ∀ i s, St i s → s.TypeIs (.ref I) "list_reverseiterator") (hst : St 0 s) (hfp : ∀ b ∈ fp, b < s.heap.objs.size) (hI : I ∈ fp)
    (h : ∀ s' acc, Moved wr G s s' → ItemsOf P acc n → Q₁ (.ref s'.heap.objs.size) { s' with heap := s'.heap.push { cls := .type "tuple", data := .seq acc } }) (hsz : n ≤ sizeLine) :
    codeAny (model prog w) A (.call (.builtin "tuple.__new__") ⟨[.type "tuple", .ref I], []⟩) (wants Q₁ E) s := by
  refine codeAny_of_tree ?_
  show wpAny _ A.in1 (do checkBuiltinCall "tuple.__new__" ⟨[.type "tuple", .ref I], []⟩; again (.builtin "tuple.__new__" ⟨[.type "tuple", .ref I], []⟩)) _ _ s
  refine wpAny_bind (wpAny_of_eq (F.newCall_tuple_1 _) (wpAny_pure ⟨plainId_quiet F.plain_tuple_new _, codeAny_builtin F.entry_tuple_new ?_⟩))
  rw [Around.under_plainId F.plain_tuple_new _]
  have hsub := sub_tuple_self
  have hinit := init_tuple_lookup
  have hmh := madeHere_tuple
  have hTI := hT 0 s hst
  wp_walk using wpAny_typeOf hTI, collect_rev (hn := hsz) W hT hst hfp hI
  intro s' acc hm hacc
  show wpAny _ _ (Builtin.Tuple.tupleExact acc.toList.toArray >>= fun v => ret v) _ _ _
  unfold Builtin.Tuple.tupleExact
  refine wpAny_bind (wpAny_newObj_type ?_ (by show acc.toList.toArray.size ≤ sizeLine; simp only [Array.toArray_toList]; rw [hacc.1]; exact hsz))
  refine wpAny_pure ?_
  have e : acc.toList.toArray = acc := by simp
  rw [e]
  exact h s' acc hm hacc
theorem call_tuple {Q : Value → Shared → Prop} (W : WalksS prog w A.in1.in1.in1 I fp wr G n P St) (hT : ∀ i s, St i s → s.TypeIs (.ref I) "list_reverseiterator") (hst : St 0 s) (hfp : ∀ b ∈ fp, b < s.heap.objs.size) (hI : I ∈ fp)
    (hQ : ∀ s' acc, Moved wr G s s' → ItemsOf P acc n → Q (.ref s'.heap.objs.size) { s' with heap := s'.heap.push { cls := .type "tuple", data := .seq acc } }) (hsz : n ≤ sizeLine) :
    wpAny (model prog w) A (call (.type "tuple") [.ref I]) Q E s := by
  refine callType_codes (Q₁ := fun obj s₁ => s₁.TypeIs obj "tuple" ∧ Q obj s₁) F.called_tuple (F.typeCall_tuple_1 _) F.entry_object_init
    (code_tuple_new (hsz := hsz) W hT hst hfp hI fun s' acc hm hacc => ⟨⟨_, Heap.get?_push_size _ rfl, rfl⟩, hQ s' acc hm hacc⟩) fun obj s₁ h₁ => ?_
  exact ⟨h₁.1, F.args_object_init_2 obj _, object_init_meets F.called_tuple.init.lookup F.called_tuple.made (by decide) prog w A.in1 _ s₁ ⟨h₁.1, rfl, h₁.2⟩⟩
end
end Rl
section
variable {prog : Program} {w : World} {A : Around} {E : Value → Shared → Prop} {s : Shared} {env : Env} {h₀ : Heap} {x : Str} {body : List Stmt} {L : Addr} {m : Str → Option Value} {news : List (Addr × Obj)}
/-- reversed(tuple) -/
theorem reversed_tup {q : Addr} {vs : List Value} {Q : Value → Shared → Prop} (F : Fr h₀ L s.heap m) (N : News h₀ L s.heap news) {nq : Nat} (hq : (q, { cls := .type "tuple", data := .seq vs.toArray nq }) ∈ news) (hsz : vs.length ≤ 1000)
    (h : ∀ D h' tk, Fr h₀ L h' m → News h₀ L h' ((D, Rv.rObj q ((vs.length : Int) - 1)) :: news) → (∀ p ∈ news, p.1 < D) → Q (.ref D) { s with heap := h', toks := tk }) : wpAny (model prog w) A (call (.type "reversed") [.ref q]) Q E s := by
  have hT : IsTup s.heap q vs.toArray := ⟨_, (N _ hq).1, rfl, nq, rfl⟩
  refine Rv.call_reversed_tuple hT (by simpa using hsz) fun tk => ?_
  have e : ((vs.toArray.size : Nat) : Int) - 1 = (vs.length : Int) - 1 := by simp
  rw [e]
  exact h _ _ _ (F.push _) (News.push F N _) fun p hp => Heap.lt_size (N p hp).1
theorem iter_rv {I q : Addr} {oq : Obj} {vs : List Value} {nq : Nat} {m₀ : Str → Option Value} {Q : Flow → Shared → Prop} (J : Nat → (Str → Option Value) → List (Addr × Obj) → Prop) (hh : A.handled = none)
    (F : Fr h₀ env.locals s.heap m₀) (N : News h₀ env.locals s.heap ((I, Rv.rObj q ((vs.length : Int) - 1)) :: news)) (hn : AllNe I news) (hq : (q, oq) ∈ news) (hc : oq.cls = .type "tuple") (hd : oq.data = .seq vs.toArray nq) (hsz : vs.length ≤ 1000)
    (hj : J 0 m₀ news) (hJq : ∀ i m nx, J i m nx → (q, oq) ∈ nx)
    (turn : ∀ (i : Nat) v m₁ news₁ h tk oI, i < vs.length → vs[vs.length - 1 - i]? = some v → J i m₁ news₁ → AllNe I news₁ → Fr h₀ env.locals h (fun y => if y = x then some v else m₁ y) → News h₀ env.locals h ((I, oI) :: news₁) →
      wpAny (model prog w) A (execs body env) (TurnEnd h₀ env.locals I oI (J (i + 1)) { s with heap := h, toks := tk } Q) E { s with heap := h, toks := tk })
    (done : ∀ m₁ news₁ h tk, J vs.length m₁ news₁ → Fr h₀ env.locals h m₁ → News h₀ env.locals h news₁ → Q .next { s with heap := h, toks := tk }) :
    wpAny (model prog w) A (pyIter (.ref I)) (fun it s₂ => LoopAtV prog w A h₀ env x body Q E it s₂) E s := by
  have hIx := N _ (List.mem_cons_self ..)
  have hqx := N _ (List.mem_cons_of_mem _ hq)
  have hne : q ≠ I := hn.all _ hq
  have hit : Rv.IsRv s.heap I q ((vs.length : Int) - 1) := ⟨_, hIx.1, rfl, rfl⟩
  have hT : IsTup s.heap q vs.toArray := ⟨oq, hqx.1, hc, nq, hd⟩
  refine Rv.iter_self hit ?_
  have W := Rv.walks (prog := prog) (w := w) hh I q hne vs.toArray (by simpa using hsz)
  have hlen : vs.toArray.size = vs.length := by simp
  rw [hlen] at W
  refine loop_one J W (by simp) ?_ hIx.2.2 (fun b hb => ?_) ⟨Nat.zero_le _, by simpa using hit, hT⟩ (fun i h hI => let ⟨o, ho, _⟩ := hI.2.1; ⟨o, ho⟩) F (fun p hp => N p (.tail _ hp)) hn.all hj ?_ done
  · intro hmm
    rcases List.mem_cons.mp hmm with e | hmm
    · exact hIx.2.1 e.symm
    · exact hqx.2.1 (List.mem_singleton.mp hmm).symm
  · rcases List.mem_cons.mp hb with e | hmm
    · exact .inl e
    · exact .inr (.inr ⟨oq, fun i m nx hJ => by rw [List.mem_singleton.mp hmm]; exact hJq i m nx hJ⟩)
  · intro i v m₁ news₁ h tk oI hi hP hJ hne' F' N'
    exact turn i v m₁ news₁ h tk oI hi (by simpa using hP) hJ hne' F' N'
/-- tuple(reversed(list)) -/
theorem tuple_rev {I l : Addr} {ol : Obj} {vs : List Value} {nl : Nat} {Q : Value → Shared → Prop} (hh : A.handled = none) (F : Fr h₀ L s.heap m) (N : News h₀ L s.heap ((I, revObj l ((vs.length : Int) - 1)) :: news)) (hl : (l, ol) ∈ news) (hc : ol.cls = .type "list") (hd : ol.data = .seq vs.toArray nl) (hne : AllNe I news) (hsz : vs.length ≤ 1000)
    (h : ∀ D h' tk, Fr h₀ L h' m → News h₀ L h' ((D, { cls := .type "tuple", data := .seq vs.reverse.toArray }) :: news) → (∀ p ∈ news, p.1 < D) → Q (.ref D) { s with heap := h', toks := tk }) :
    wpAny (model prog w) A (call (.type "tuple") [.ref I]) Q E s := by
  have hIx := N _ (List.mem_cons_self ..)
  have hlx := N _ (List.mem_cons_of_mem _ hl)
  have hnl : l ≠ I := hne.all _ hl
  have hit : s.heap.IsRevIter I l ((vs.length : Int) - 1) := ⟨_, hIx.1, rfl, rfl⟩
  have hL : s.heap.IsList l vs.toArray := ⟨ol, hlx.1, hc, nl, hd⟩
  have W := (Walks.listRev (prog := prog) (w := w) (A := A.in1.in1.in1) hh I l hnl vs.toArray).toS
  have hlen : vs.toArray.size = vs.length := by simp
  rw [hlen] at W
  refine Rl.call_tuple W (fun i s st => st.2.1.typeIs) ⟨Nat.zero_le _, by simpa using hit, hL⟩ (fun b hb => ?_) (by simp) (fun s' acc hm hacc => ?_) (by rw [sizeLine_eq]; omega)
  · rcases List.mem_cons.mp hb with e | hmm
    · rw [e]; exact Heap.lt_size hIx.1
    · rw [List.mem_singleton.mp hmm]; exact Heap.lt_size hlx.1
  · have eacc : acc = vs.reverse.toArray := by
      refine Array.ext_getElem? fun j => ?_
      by_cases hj : j < vs.length
      · have h1 : acc[j]? = some (acc[j]'(by rw [hacc.1]; exact hj)) := Array.getElem?_eq_getElem _
        have h2 := hacc.2 j _ h1
        rw [h1]
        simp only [List.getElem?_toArray, List.size_toArray] at h2 ⊢
        rw [List.getElem?_reverse hj]; exact h2.symm
      · rw [Array.getElem?_eq_none (by rw [hacc.1]; omega), Array.getElem?_eq_none (by simp; omega)]
    subst eacc
    have keep : ∀ b o, b ≠ I → s.heap.get? b = some o → s'.heap.get? b = some o := fun b o hb e => hm.heap b o (fun h => hb (List.mem_singleton.mp h)) e
    have es : s' = { s with heap := s'.heap, toks := s'.toks } := by
      have := hm.gens; have := hm.drawn; have := hm.os
      cases s; cases s'; simp_all
    rw [es]
    have F' : Fr h₀ L s'.heap m := by
      obtain ⟨oL, es, ep, hoL, r⟩ := F.ns
      exact ⟨⟨oL, es, ep, keep _ _ (fun e => hIx.2.1 e.symm) hoL, r⟩, fun b o e => keep _ _ (fun eb => by rw [eb, hIx.2.2] at e; cases e) (F.keep b o e), F.above⟩
    have N' : News h₀ L s'.heap news := fun p hp => ⟨keep _ _ (hne.all p hp) (N p (.tail _ hp)).1, (N p (.tail _ hp)).2⟩
    exact h _ _ _ (F'.push _) (News.push F' N' _) fun p hp => Heap.lt_size (N' p hp).1
end
end -- S9
section -- S10a
/-! the plain law of set -/
def Prf (T : List Oct) (f : Nat → Oct) (p i : Nat) (pvs : List Value) : Prop := pvs.length = i ∧ ∀ l, l < i → ∃ b t, pvs[l]? = some (.bytes b t) ∧ Tr T l (sub f (low p l)) b.toList
theorem Prf.nil (T : List Oct) (f : Nat → Oct) (p : Nat) : Prf T f p 0 [] := ⟨rfl, fun l h => absurd h (Nat.not_lt_zero _)⟩
theorem Prf.snoc {T T' : List Oct} {n : Nat} {f : Nat → Oct} {p i : Nat} {pvs : List Value} (h : Prf T f p i pvs) (e : Ext n T T') {b : Array UInt8} {t : Tok} (hb : Tr T' i (sub f (low p i)) b.toList) : Prf T' f p (i + 1) (pvs ++ [.bytes b t]) := by
  refine ⟨by simp [h.1], fun l hl => ?_⟩
  by_cases q : l = i
  · subst q
    exact ⟨b, t, by rw [← h.1]; simp, hb⟩
  · obtain ⟨c, u, hc, ht⟩ := h.2 l (by omega)
    exact ⟨c, u, by rw [List.getElem?_append_left (by rw [h.1]; omega)]; exact hc, ht.ext e⟩
theorem octs_of {vs : List Value} : (∀ v ∈ vs, ∃ b t, v = .bytes b t) → ∃ bs, Octs vs bs := by
  induction vs with
  | nil => intro _; exact ⟨[], rfl⟩
  | cons v r ih =>
    intro hv
    obtain ⟨b, t, rfl⟩ := hv v (.head _)
    obtain ⟨bs, hb⟩ := ih fun u hu => hv u (.tail _ hu)
    exact ⟨b.toList :: bs, by unfold Octs at *; simp only [List.map_cons, hb]; rfl⟩
theorem Octs.at {vs : List Value} {bs : List Oct} (h : Octs vs bs) (i : Nat) {b : Array UInt8} {t : Tok} (e : vs[i]? = some (.bytes b t)) : bs[i]? = some b.toList := by
  have h1 : (vs.map octOf)[i]? = some (some b.toList) := by rw [List.getElem?_map, e]; rfl
  rw [h, List.getElem?_map] at h1
  cases q : bs[i]? with
  | none => rw [q] at h1; cases h1
  | some y => rw [q] at h1; simpa using h1
theorem Octs.back {vs : List Value} {bs : List Oct} (h : Octs vs bs) (i : Nat) {x : Oct} (e : bs[i]? = some x) : ∃ b t, vs[i]? = some (.bytes b t) ∧ b.toList = x := by
  have h1 : (bs.map some)[i]? = some (some x) := by rw [List.getElem?_map, e]; rfl
  rw [← h, List.getElem?_map] at h1
  cases q : vs[i]? with
  | none => rw [q] at h1; cases h1
  | some y =>
    rw [q] at h1
    simp only [Option.map_some, Option.some.injEq] at h1
    obtain ⟨b, t, rfl, hb⟩ := octOf_some h1
    exact ⟨b, t, rfl, hb⟩
theorem Octs.length {vs : List Value} {bs : List Oct} (h : Octs vs bs) : vs.length = bs.length := by simpa using congrArg List.length h
theorem Prf.ons {T : List Oct} {f : Nat → Oct} {p d : Nat} {pvs : List Value} (h : Prf T f p d pvs) : ∃ bs, Octs pvs.reverse bs ∧ Ons T f p d bs := by
  obtain ⟨bs, hbs⟩ := octs_of (vs := pvs.reverse) fun v hv => by
    obtain ⟨j, hj, rfl⟩ := List.mem_iff_getElem.mp (List.mem_reverse.mp hv)
    obtain ⟨b, t, e, _⟩ := h.2 j (by rw [h.1] at hj; exact hj)
    rw [List.getElem?_eq_getElem hj] at e
    exact ⟨b, t, Option.some.inj e⟩
  refine ⟨bs, hbs, ?_, fun l hl => ?_⟩
  · rw [← hbs.length, List.length_reverse, h.1]
  · obtain ⟨b, t, e, ht⟩ := h.2 l hl
    refine ⟨b.toList, hbs.at _ (t := t) ?_, ht⟩
    rw [List.getElem?_reverse (by rw [h.1]; omega), h.1, ← e]
    congr 1; omega
structure Up (T0 : List Oct) (D0 : List (Oct × Oct)) (f : Nat → Oct) (p i : Nat) (T : List Oct) (D : List (Oct × Oct)) (node : Oct) (pvs : List Value) : Prop where
  ext : Ext i T0 T
  ok : DbOk T D
  over : Over D0 D
  len : D.length ≤ D0.length + i
  node : Node T D f p i node
  prf : Prf T f p i pvs
theorem Up.zero {T : List Oct} {D : List (Oct × Oct)} {f : Nat → Oct} {p : Nat} {x : Oct} (ok : DbOk T D) (hx : x = f p) : Up T D f p 0 T D x [] := ⟨Ext.refl T, ok, Over.refl D, by omega, hx, Prf.nil _ _ _⟩
section
variable {T0 T T' : List Oct} {D0 D : List (Oct × Oct)} {f : Nat → Oct} {p i : Nat} {node s : Oct} {pvs : List Value} {nh : Array UInt8} {t : Tok}
theorem Up.put (u : Up T0 D0 f p i T D node pvs) (hT : T'.length < 2 ^ 60) (e : Ext 1 T T') (hh : hsh T' node = some nh.toList) :
    Ext (i + 1) T0 T' ∧ DbOk T' (put D nh.toList node) ∧ Over D (put D nh.toList node) ∧ Over D0 (put D nh.toList node) ∧ (put D nh.toList node).length ≤ D0.length + (i + 1) ∧ In T' (put D nh.toList node) i (sub f (low p i)) nh.toList := by
  have ok' := u.ok.ext e
  have ov := ok'.over hT hh
  refine ⟨u.ext.trans e, ok'.put hh, ov, u.over.trans ov, ?_, Node.put hT ok' (u.node.ext e (Over.refl _)) hh⟩
  have := put_length D nh.toList node
  have := u.len
  omega
theorem Up.turn (u : Up T0 D0 f p i T D node pvs) (hT : T'.length < 2 ^ 60) (e : Ext 1 T T') (hh : hsh T' node = some nh.toList) (hs : In T0 D0 i (sub f (other p i)) s) :
    (p / 2 ^ i % 2 = 0 → Up T0 D0 f p (i + 1) T' (Smt.put D nh.toList node) (nh.toList ++ s) (pvs ++ [.bytes nh t])) ∧ (p / 2 ^ i % 2 = 1 → Up T0 D0 f p (i + 1) T' (Smt.put D nh.toList node) (s ++ nh.toList) (pvs ++ [.bytes nh t])) := by
  obtain ⟨e1, ok, _, ov, hl, hin⟩ := u.put hT e hh
  have up := Node.up hin (hs.over e1 ov)
  exact ⟨fun c => ⟨e1, ok, ov, hl, up.1 c, u.prf.snoc e hin.tr⟩, fun c => ⟨e1, ok, ov, hl, up.2 c, u.prf.snoc e hin.tr⟩⟩
/-- the sibling that a branch tells -/
theorem sib_in {d : Nat} {g : Nat → Oct} {v x : Oct} {root : Oct} {bs : List Oct} (hin : In T D d g root) (hp : p < 2 ^ d) (hsib : Sibs T g p d bs) (hi : i < d) (e : bs[d - 1 - i]? = some x) : In T D i (sub (upd g p v) (other p i)) x := by
  have hin' : In T D d (sub g (low p d)) root := by rw [low_top hp, sub_zero]; exact hin
  obtain ⟨a, ha⟩ := In.beside hin' i hi
  obtain ⟨y, hy, ht⟩ := hsib.2 i hi
  rw [e] at hy
  cases hy
  rw [ha.tr.det ht] at ha
  exact ha.congr fun j hj => sub_upd_off j hj
end

theorem shl_pow {prog : Program} {w : World} {A : Around} {E : Value → Shared → Prop} {s : Shared} {tb : Int} {i : Nat} {t u : Tok} {Q : Value → Shared → Prop} (htb : tb = ((2 ^ i : Nat) : Int)) (hi : i ≤ 32) (h : ∀ t' k, Q (.int ((2 ^ (i + 1) : Nat) : Int) t') { s with toks := k }) :
    wpAny (model prog w) A (inplaceOp .LShift (.int tb t) (.int 1 u)) Q E s := by
  subst htb
  have h2 : 2 ^ i ≤ 2 ^ 32 := Nat.pow_le_pow_right (by decide) hi
  refine ilshift_int_small (by decide) (by decide) (by rw [Int.natAbs_natCast]; exact Nat.lt_of_le_of_lt h2 (by decide)) ?_
  have e : (((2 ^ i : Nat) : Int) * 2 ^ (1 : Int).toNat) = ((2 ^ (i + 1) : Nat) : Int) := by
    show (((2 ^ i : Nat) : Int) * ((2 : Nat) : Int)) = _
    rw [Nat.pow_succ]; rfl
  rw [e]
  exact h _ _
theorem add_octs {prog : Program} {w : World} {A : Around} {E : Value → Shared → Prop} {s : Shared} {b c : Array UInt8} {t u : Tok} {Q : Value → Shared → Prop} (hb : b.toList.length = 32) (hc : c.toList.length = 32) (h : ∀ d t' k, d.toList = b.toList ++ c.toList → Q (.bytes d t') { s with toks := k }) :
    wpAny (model prog w) A (binaryOp .Add (.bytes b t) (.bytes c u)) Q E s :=
  KBy.add_bytes (by rw [← Array.length_toList, ← Array.length_toList]; omega) fun t' k => h _ t' k (by simp)
end -- S10a
section -- S10
theorem lines_s10_1 : True := by
  w_top off
  k_with_none
  (k_with "exec For Name Call cons nil" => (refine stop ?_))
  (k_with "exec For Name Call" => (refine stop ?_))
  (k_with "pyIter ref" => (refine stop ?_))
  (k_with "k_room" => (((try simp only [depth_under_make, depth_under_kw, depth_in1, depth_deeper, depth_caller]); omega)))
  (k_with "compareOp NotEq int int" => (refine ne_same ?_))
  (k_with "call ref" => ((k_here; (with_reducible show wpAny _ _ (call (Value.ref _) [Value.bytes _ _, Value.str _ _]) _ _ _); k_dflt (refine' from_big ?q6N ?q6m ?q6l ?q6p ?_; (case q6N => k_asm); (case q6m => k_mem); (case q6l => omega); (case q6p => assumption)); intro t' k')))
  (k_with "z cj" => (first | with_reducible assumption | exact And.left (by with_reducible assumption) | exact And.left (And.right (by with_reducible assumption)) | exact And.left (And.right (And.right (by with_reducible assumption))) | exact And.left (And.right (And.right (And.right (by with_reducible assumption)))) | exact And.left (And.right (And.right (And.right (And.right (by with_reducible assumption))))) | exact And.left (And.right (And.right (And.right (And.right (And.right (by with_reducible assumption)))))) | exact And.left (And.right (And.right (And.right (And.right (And.right (And.right (by with_reducible assumption))))))) | exact And.left (And.right (And.right (And.right (And.right (And.right (And.right (And.right (by with_reducible assumption)))))))) | exact And.right (by with_reducible assumption) | exact And.right (And.right (by with_reducible assumption)) | exact And.right (And.right (And.right (by with_reducible assumption))) | exact And.right (And.right (And.right (And.right (by with_reducible assumption)))) | exact And.right (And.right (And.right (And.right (And.right (by with_reducible assumption))))) | exact And.right (And.right (And.right (And.right (And.right (And.right (by with_reducible assumption)))))) | exact And.right (And.right (And.right (And.right (And.right (And.right (And.right (by with_reducible assumption)))))))))
  (k_with "z ne1" => (first | k_extra "z cj" | (refine Ne.symm ?_; k_extra "z cj") | exact AllNe.at1 (by with_reducible assumption) (by k_mem) | exact AllNe.at2 (by with_reducible assumption) (by k_mem) | omega))
  (k_with "k_ne" => ((refine PySem.W.neN ?_; (try dsimp only); k_extra "z ne1")))
  (k_with "execs cons" => (((with_reducible show wpAny _ _ (execs (Stmt.Assign _ _ _ :: _) _) _ _ _); refine execsGen fun P8 hP8 => ?_)))
  (k_with "execs cons" => (((with_reducible show wpAny _ _ (execs (Stmt.Expr _ _ :: _) _) _ _ _); refine execsGen fun P8 hP8 => ?_)))
  (k_with "execs cons" => (((with_reducible show wpAny _ _ (execs (Stmt.AugAssign _ _ _ _ :: _) _) _ _ _); refine execsGen fun P8 hP8 => ?_)))
  (k_with "FinQ" => ((refine finOut (by with_reducible assumption) ?_; (try dsimp only))))
  (k_with "call ref" => ((k_here; (with_reducible show wpAny _ _ (call (Value.ref 34) [Value.bytes _ _]) _ _ _); k_dflt (refine' call_valid_bytes ?q7B ?q7F ?q7X ?q7T ?q7N ?q7c1 ?q7c2 ?q7c3 ?q7c4 ?q7r ?_; (case q7F => k_asm); (case q7N => k_asm); (case q7B => k_asm); (case q7X => k_asm); (case q7T => k_asm); (case q7c1 => exact rfl); (case q7c2 => exact rfl); (case q7c3 => exact rfl); (case q7c4 => exact rfl); (case q7r => k_room)); intro h' tk' F' N'; (try k_sweep))))
  (k_with "call ref" => ((k_here; (with_reducible show wpAny _ _ (call (Value.ref 41) [Value.bytes _ _, Value.int _ _]) _ _ _); k_dflt (refine' call_valid_length ?q8B ?q8F ?q8X ?q8T ?q8N ?q8c1 ?q8c2 ?q8c3 ?q8c4 ?q8r ?q8z ?q8n ?_; (case q8F => k_asm); (case q8N => k_asm); (case q8B => k_asm); (case q8X => k_asm); (case q8T => k_asm); (case q8c1 => exact rfl); (case q8c2 => exact rfl); (case q8c3 => exact rfl); (case q8c4 => exact rfl); (case q8r => k_room); (case q8z => omega); (case q8n => omega)); intro h' tk' F' N'; (try k_sweep))))
  (k_with "getMethod type:int" => ((k_here; k_dflt (refine' KFB.getm ?q9kfbF ?q9kfbN ?q9kfbX (find_fb _) ?_; (case q9kfbF => k_asm); (case q9kfbN => k_asm); (case q9kfbX => k_asm); k_whole; intro x' h' F' N' l1; (try k_lt l1); (try k_sweep)))))
  (k_with "eval Name" => ((k_here; k_dflt (refine' nameX_L ?q10F ?q10v ?_ ?q10a ?q10b; (case q10a => rfl); (case q10b => rfl); (case q10F => k_asm); (case q10v => assumption); k_whole))))
  (k_with "subscriptTail" => ((k_here; (with_reducible show wpAny _ _ (subscriptTail _ _ (Value.ref _) (Value.bytes _ _)) _ _ _); k_dflt (refine' kb_item ?q11N ?q11p ?q11d (bk_is _ _) ?q11l ?_; (case q11N => k_asm); (case q11p => k_mem); (case q11d => assumption); (case q11l => assumption); (intro b' t' hb')))))
  (k_with "subscriptTail" => ((k_here; (with_reducible show wpAny _ _ (subscriptTail _ (Expr.Slice none _ none _) (Value.bytes _ _) (Value.ref _)) _ _ _); (with_reducible rename Fr _ _ _ _ => F'); (with_reducible rename News _ _ _ _ => N'); (refine cut_lo (s := ⟨_, _, _, _, _⟩) F' N' (by assumption) (by assumption) (by assumption) ?_); intro _ _ _ _ _ _ _)))
  (k_with "subscriptTail" => ((k_here; (with_reducible show wpAny _ _ (subscriptTail _ (Expr.Slice _ none none _) (Value.bytes _ _) (Value.ref _)) _ _ _); (with_reducible rename Fr _ _ _ _ => F'); (with_reducible rename News _ _ _ _ => N'); (refine cut_hi (s := ⟨_, _, _, _, _⟩) F' N' (by assumption) (by assumption) (by assumption) ?_); intro _ _ _ _ _ _ _)))
  (k_with "binaryOp BitAnd int int" => ((k_here; refine and_bit (by assumption) (fun hbit hpos => ?_) (fun hbit => ?_))))
  (k_with "loadName" => ((k_here; k_dflt (refine' ldn ?q12F ?q12v ?_ ?q12a ?q12b; (case q12a => rfl); (case q12b => rfl); (case q12F => k_asm); (case q12v => assumption); k_whole))))
  (k_with "truthy int" => ((refine truthy_pos (by assumption) ?_)))
  trivial
/-! calls out of a walk -/
theorem fillit10 : PySem.Challenge.rw_iw0038_01.foot = 7 ∧ hd0.heap_1 = hd0.heap_1 := by
  k_fill
  exact ⟨rfl, rfl⟩
theorem HashFn.fnAt {g h : Heap} {L fa ta : Addr} {m : Str → Option Value} (H : HashFn g fa ta) (F : Fr g L h m) : FnAt fa h := by
  obtain ⟨fo, pm, doc, cdv, ct, an, c, co, h1, h2, _⟩ := H
  obtain ⟨oc, od, dt, sl⟩ := fo
  dsimp only at h2
  subst h2
  exact ⟨oc, od, _, sl, F.keep _ _ h1⟩
theorem HashFn.site {g h : Heap} {L fa ta : Addr} {m : Str → Option Value} {news led : List (Addr × Obj)} (H : HashFn g fa ta) (F : Fr g L h m) (N : News g L h news) (hl : ∀ p ∈ led, p ∈ news) : HashFn (hideAll h (led.map (·.1))) fa ta :=
  H.keeps fun b o e => hideAll_get _ (F.keep b o e) fun q => by
    obtain ⟨p, hp, rfl⟩ := List.mem_map.mp q
    rw [(N p (hl p hp)).2.2] at e; cases e
theorem HashFn.at1 {g h : Heap} {L fa ta : Addr} {ot : Obj} {m : Str → Option Value} {news : List (Addr × Obj)} (H : HashFn g fa ta) (F : Fr g L h m) (N : News g L h news) (hm : (ta, ot) ∈ news) : HashFn (hideAll h [ta]) fa ta :=
  H.site F N (led := [(ta, ot)]) fun q hq => by rw [List.mem_singleton.mp hq]; exact hm
theorem ge_hide {h : Heap} {as : List Addr} {a : Addr} (hg : (hideAll h as).get? a = none) (hn : a ∉ as) : h.get? a = none := by
  cases q : h.get? a with
  | none => rfl
  | some o => rw [hideAll_get _ q hn] at hg; cases hg
theorem AllNe.notin {a : Addr} : ∀ {l : List (Addr × Obj)}, AllNe a l → a ∉ l.map (·.1)
  | [], _, h => by cases h
  | p :: r, ⟨h1, h2⟩, h => by
    rcases List.mem_cons.mp h with e | e
    · exact h1 e.symm
    · exact h2.notin e
section
variable {g h h' : Heap} {L : Addr} {m : Str → Option Value} {news led : List (Addr × Obj)}
/-- an object that the call made -/
theorem fresh_all {a : Addr} (N : News g L h news) (hf : Fresh (hideAll h (led.map (·.1))) led a) : h.get? a = none ∧ AllNe a news := by
  have e := ge_hide hf.1 hf.2.notin
  exact ⟨e, allNe_of fun p hp q => by rw [← q, (N p hp).1] at e; cases e⟩
theorem all_back (hk : ∀ b o, (hideAll h (led.map (·.1))).get? b = some o → h'.get? b = some o) (hl : ∀ p ∈ led, h'.get? p.1 = some p.2) (h0 : ∀ p ∈ led, h.get? p.1 = some p.2) : ∀ b o, h.get? b = some o → h'.get? b = some o := fun b o e => by
  by_cases q : b ∈ led.map (·.1)
  · obtain ⟨p, hp, rfl⟩ := List.mem_map.mp q
    rw [h0 p hp] at e; cases e
    exact hl p hp
  · exact hk b o (hideAll_get _ e q)
theorem drop_at (pre : List (Addr × Obj)) {e : Addr × Obj} {r : List (Addr × Obj)} (N : News g L h (pre ++ e :: r)) : News g L h (pre ++ r) := fun q hq => N q (by
  rcases List.mem_append.mp hq with hq | hq
  · exact List.mem_append_left _ hq
  · exact List.mem_append_right _ (.tail _ hq))
/-- one object of the ledger changed -/
theorem news_upd {a : Addr} {o o' : Obj} {gn : Obj → List (Addr × Obj)} (N : News g L h news) (U : UpdF a o news gn) (hk : ∀ b o, (hideAll h [a]).get? b = some o → h'.get? b = some o) (ho : h'.get? a = some o') : News g L h' (gn o') := by
  obtain ⟨pre, post, rfl, hg, ha, hb⟩ := U.split
  rw [hg]
  have keep : ∀ p ∈ pre ++ (a, o) :: post, p.1 ≠ a → h'.get? p.1 = some p.2 ∧ p.1 ≠ L ∧ g.get? p.1 = none := fun p hp hne =>
    ⟨hk _ _ (hideAll_get _ (N p hp).1 (by simpa using hne)), (N p hp).2⟩
  intro p hp
  rcases List.mem_append.mp hp with hp | hp
  · exact keep p (List.mem_append_left _ hp) (ha p hp)
  · rcases List.mem_cons.mp hp with rfl | hp
    · exact ⟨ho, (N (a, o) (List.mem_append_right _ (.head _))).2⟩
    · exact keep p (List.mem_append_right _ (.tail _ hp)) (hb p hp)
end
section
variable {prog : Program} {w : World} {A : Around} {s : Shared} {g : Heap} {E : Value → Shared → Prop} {L : Addr} {m : Str → Option Value} {base : Heap} {fr : List Env} {env : Env} {news : List (Addr × Obj)}
  {p : Program} {loose : List Str} {mean : ExcName → Option Value} {mg mb : Str → Option Value} {A₀ : Around} {Q : Value → Shared → Prop}
theorem call_hash {fa ta : Addr} {ot : Obj} {T : List Oct} {x : Array UInt8} {xt : Tok} {gn : Obj → List (Addr × Obj)} (B : Below A₀ base fr g) (F : Fr g L s.heap m) (X : (hd0.heap_1 w.params).In g) (TT : Top p loose mean mg mb g) (N : News g L s.heap news) (hA : A.frames = some (env :: fr)) (hf : env.frame = some L) (hke : env.scope.kind = .function) (hh : A.handled = none)
    (H : HashFn (hideAll s.heap [ta]) fa ta) (hot : IsTbl prog w ot T) (U : UpdF ta ot news gn) (hsz : T.length ≤ 1000000) (hroom : A.depth < recursionLimit) (lo : (ta == sysModules) = false)
    (h : ∀ b t h' tk' ot' T', Fr g L h' m → News g L h' (gn ot') → Ext 1 T T' → hsh T' x.toList = some b.toList → b.toList.length = 32 → IsTbl prog w ot' T' → Q (.bytes b t) { s with heap := h', toks := tk' }) : wpAny (model prog w) A (call (.ref fa) [.bytes x xt]) Q E s := by
  have hm : (ta, ot) ∈ news := by obtain ⟨pre, post, rfl, _⟩ := U.split; exact List.mem_append_right _ (.head _)
  have hl : ∀ q ∈ [(ta, ot)], q ∈ news := fun q hq => by rw [List.mem_singleton.mp hq]; exact hm
  obtain ⟨S, hL⟩ := site_of B F X TT (led := [(ta, ot)]) (fun q hq => N q (hl q hq)) hA hf hke hh
  refine wpAny_call (law_hash S H hL hot hsz hroom lo fun b t h' tk' ot' T' e hb hot' k ho => ?_)
  exact h b t h' tk' ot' T' (fr_back F (led := [(ta, ot)]) (fun q hq => N q (hl q hq)) k) (news_upd N U k ho) e hb (hsh_len hb) hot'
theorem call_get {fa x dx da : Addr} {odb : Obj} {T : List Oct} {D : List (Oct × Oct)} {key dflt root : Array UInt8} {kt t1 t2 t3 t4 t5 t6 u1 u2 u3 u6 : Tok} {size : Nat} {f : Nat → Oct} {pp : Nat} (B : Below A₀ base fr g) (F : Fr g L s.heap m) (X : (hd0.heap_1 w.params).In g) (TT : Top p loose mean mg mb g) (N : News g L s.heap news) (hA : A.frames = some (env :: fr)) (hf : env.frame = some L) (hke : env.scope.kind = .function) (hh : A.handled = none)
    (m1 : (x, instObj 140 dx) ∈ news) (m2 : (dx, dictOf (treeEs w t1 t2 t3 t4 t5 t6 (.int size u1) (.int (8 * size : Int) u2) (.bytes dflt u3) (.ref fa) (.ref da) (.bytes root u6)) 6) ∈ news) (m3 : (da, odb) ∈ news)
    (hne : @Ne Nat x dx ∧ @Ne Nat x da ∧ @Ne Nat dx da) (hroom : A.depth + 5 < recursionLimit) (hs1 : 1 ≤ size) (hs2 : size ≤ 2) (hkey : key.size = size) (hp : value (oInts key.toList) = (pp : Int)) (hp2 : pp < 2 ^ (8 * size)) (hdb : IsKB (bytesKind prog w) odb D)
    (hin : In T D (8 * size) f root.toList)
    (h : ∀ r q bvs v bs n n' h' tk', Fr g L h' m → News g L h' ((r, { cls := .type "tuple", data := .seq #[.bytes v n, .ref q] }) :: (q, { cls := .type "tuple", data := .seq (List.toArray bvs) n' }) :: news) → AllNe r news → AllNe q news → @Ne Nat q r →
      Octs bvs bs → Sibs T f pp (8 * size) bs → v.toList = f pp → Q (.ref r) { s with heap := h', toks := tk' }) :
    wpAny (model prog w) A (call (.ref 88) [.ref x, .bytes key kt]) Q E s := by
  have hl : ∀ q ∈ [(x, instObj 140 dx), (dx, dictOf (treeEs w t1 t2 t3 t4 t5 t6 (.int size u1) (.int (8 * size : Int) u2) (.bytes dflt u3) (.ref fa) (.ref da) (.bytes root u6)) 6), (da, odb)], q ∈ news := fun q hq => by
    simp only [List.mem_cons, List.not_mem_nil, or_false] at hq
    rcases hq with rfl | rfl | rfl <;> assumption
  obtain ⟨S, hL⟩ := site_of B F X TT (led := _) (fun q hq => N q (hl q hq)) hA hf hke hh
  refine wpAny_call (get_ S hL hne hroom hs1 hs2 hkey hp hp2 hdb hin fun r q bvs v bs n n' h' tk' k kl hr hq fr fq ne o1 o2 o3 => ?_)
  have all := all_back k kl fun a ha => (N a (hl a ha)).1
  obtain ⟨r1, r2⟩ := fresh_all N (led := [(x, instObj 140 dx), (dx, instObj 140 dx), (da, odb)]) fr
  obtain ⟨q1, q2⟩ := fresh_all N (led := [(x, instObj 140 dx), (dx, instObj 140 dx), (da, odb)]) fq
  refine h r q bvs v bs n n' h' tk' (F.keptAll all) (fun a ha => ?_) r2 q2 ne o1 o2 o3
  rcases List.mem_cons.mp ha with rfl | ha
  · exact new_back F hr r1
  · rcases List.mem_cons.mp ha with rfl | ha
    · exact new_back F hq q1
    · exact N.grown all a ha
end
theorem lines_s10_2 : True := by
  (k_with "hash1" => (exact HashFn.at1 (by assumption) (by k_asm) (by k_asm) (by k_mem)))
  (k_with "callWith ref" => ((k_here; k_dflt (refine' callWith_F ?q13k1 ?_; (case q13k1 => exact HashFn.fnAt (by assumption) (by k_asm)); k_whole))))
  (k_with "FnAt" => (exact HashFn.fnAt (by assumption) (by k_asm)))
  (k_with "And" => (((with_reducible show FnAt _ _ ∧ _); refine ⟨HashFn.fnAt (by assumption) (by k_asm), ?_⟩; try dsimp only [List.nil_append, List.cons_append])))
  (k_with "nm_m10_1" => (intro bH tH h' tk' oH TH F' N' hxH hbH hlH hotH))
  (k_with "nm_m10_2" => ((try dsimp only at N')))
  (k_with "call ref" => ((k_here; (with_reducible show wpAny _ _ (call (Value.ref _) [Value.bytes _ _]) _ _ _); k_dflt (refine' call_hash ?q14B ?q14F ?q14X ?q14T ?q14N ?q14c1 ?q14c2 ?q14c3 ?q14c4 ?q14H ?q14ot ?q14U ?q14z ?q14r ?q14lo ?_; (case q14F => k_asm); (case q14N => k_asm); (case q14B => k_asm); (case q14X => k_asm); (case q14T => k_asm); (case q14c1 => exact rfl); (case q14c2 => exact rfl); (case q14c3 => exact rfl); (case q14c4 => exact rfl); (case q14H => k_extra "hash1"); (case q14ot => assumption); (case q14U => k_updF); (case q14z => omega); (case q14r => k_room); (case q14lo => assumption)); k_extra "nm_m10_1"; k_extra "nm_m10_2"; (try k_sweep))))
  (k_with "call ref" => ((k_here; (with_reducible show wpAny _ _ (call (Value.ref 34) [Value.bytes _ _]) _ _ _); k_dflt (refine' call_valid_bytes ?q7B ?q7F ?q7X ?q7T ?q7N ?q7c1 ?q7c2 ?q7c3 ?q7c4 ?q7r ?_; (case q7F => k_asm); (case q7N => k_asm); (case q7B => k_asm); (case q7X => k_asm); (case q7T => k_asm); (case q7c1 => exact rfl); (case q7c2 => exact rfl); (case q7c3 => exact rfl); (case q7c4 => exact rfl); (case q7r => k_room)); intro h' tk' F' N'; (try k_sweep))))
  (k_with "nm_m10_3" => (intro rG qG bvsG vG bsG nG n2G h' tk' F' N' hrG hqG hqrG hoG hsG hvG))
  (k_with "nm_m10_4" => ((have hrG9 := hrG; have hqG9 := hqG; simp only [AllNe, and_true] at hrG hqG)))
  (k_with "call ref" => ((k_here; (with_reducible show wpAny _ _ (call (Value.ref 88) [Value.ref _, Value.bytes _ _]) _ _ _); k_dflt (refine' call_get ?q15B ?q15F ?q15X ?q15T ?q15N ?q15c1 ?q15c2 ?q15c3 ?q15c4 ?q15m1 ?q15m2 ?q15m3 ?q15ne ?q15r ?q15s1 ?q15s2 ?q15ky ?q15hp ?q15hp2 ?q15db ?q15hin ?_; (case q15F => k_asm); (case q15N => k_asm); (case q15B => k_asm); (case q15X => k_asm); (case q15T => k_asm); (case q15c1 => exact rfl); (case q15c2 => exact rfl); (case q15c3 => exact rfl); (case q15c4 => exact rfl); (case q15m1 => k_mem); (case q15m2 => k_mem); (case q15m3 => k_mem); (case q15ne => (refine ⟨?_, ?_, ?_⟩ <;> k_ne)); (case q15r => k_room); (case q15s1 => omega); (case q15s2 => omega); (case q15ky => assumption); (case q15hp => assumption); (case q15hp2 => assumption); (case q15db => assumption); (case q15hin => assumption)); k_extra "nm_m10_3"; k_extra "nm_m10_4"; (try k_sweep))))
  (k_with "nm_m10_5" => ((intro DR h' tk' F' N' l1; (try k_lt l1))))
  (k_with "call type:reversed" => ((k_here; (with_reducible show wpAny _ _ (call (Value.type _) [Value.ref _]) _ _ _); k_dflt (refine' reversed_tup ?q16F ?q16N ?q16m ?q16z ?_; (case q16F => k_asm); (case q16N => k_asm); (case q16m => k_mem); (case q16z => assumption)); k_extra "nm_m10_5"; (try k_sweep))))
  (k_with "nm_m10_6" => (intro h' oS F' N' hdS))
  (k_with "nm_m10_7" => ((try dsimp only at N')))
  (k_with "setItem ref bytes" => ((k_here; (with_reducible show wpAny _ _ (setItem (Value.ref _) (Value.bytes _ _) (Value.bytes _ _)) _ _ _); k_dflt (refine' kb_set ?q17F ?q17N ?q17U ?q17d (bk_is _ _) ?q17z ?_; (case q17F => k_asm); (case q17N => k_asm); (case q17U => k_updF); (case q17d => assumption); (case q17z => (simp only [sizeLine_eq]; omega)); (k_extra "nm_m10_6"); k_extra "nm_m10_7"))))
  (k_with "nm_m10_8" => (intro dA tA kA hdA))
  (k_with "binaryOp Add bytes bytes" => ((k_here; (with_reducible show wpAny _ _ (binaryOp Operator.Add (Value.bytes _ _) (Value.bytes _ _)) _ _ _); refine add_octs (by assumption) (by assumption) ?_; k_extra "nm_m10_8")))
  (k_with "nm_m10_9" => (intro tA kA))
  (k_with "inplaceOp LShift int int" => ((k_here; refine shl_pow (by assumption) (by omega) ?_; k_extra "nm_m10_9")))
  (k_with "allne" => ((simp only [AllNe, and_true]; (repeat' apply And.intro) <;> k_extra "z ne1")))
  (k_with "nm_m10_10" => ((intro DT h' tk' F' N' l1; (try k_lt l1))))
  (k_with "call type:tuple" => ((k_here; (with_reducible show wpAny _ _ (call (Value.type _) [Value.ref _]) _ _ _); k_dflt (refine' tuple_rev ?q18hh ?q18F ?q18N ?q18m ?q18c ?q18d ?q18ne ?q18z ?_; (case q18hh => exact rfl); (case q18F => k_asm); (case q18N => k_asm); (case q18m => k_mem); (case q18c => exact rfl); (case q18d => exact rfl); (case q18ne => k_extra "allne"); (case q18z => assumption)); k_extra "nm_m10_10"; (try k_sweep))))
  trivial
section
variable {prog : Program} {w : World} {A : Around} {s : Shared} {g : Heap} {R : Result → Shared → Prop} {fa ta x dx da : Addr} {ot odb : Obj} {T : List Oct} {D : List (Oct × Oct)} {key dflt root v : Array UInt8} {kt vt t1 t2 t3 t4 t5 t6 u1 u2 u3 u6 : Tok} {size : Nat} {f : Nat → Oct} {p : Nat}
set_option maxHeartbeats 4000000 in
theorem set_ (S : Site w A g s.heap) (hL : Led g s.heap [(x, instObj 140 dx), (dx, dictOf (treeEs w t1 t2 t3 t4 t5 t6 (.int size u1) (.int (8 * size : Int) u2) (.bytes dflt u3) (.ref fa) (.ref da) (.bytes root u6)) 6), (da, odb), (ta, ot)])
    (hne : @Ne Nat x dx ∧ @Ne Nat x da ∧ @Ne Nat x ta ∧ @Ne Nat dx da ∧ @Ne Nat dx ta ∧ @Ne Nat da ta) (hroom : A.depth + 8 < recursionLimit) (hs1 : 1 ≤ size) (hs2 : size ≤ 2) (hkey : key.size = size) (hp : value (oInts key.toList) = (p : Int)) (hp2 : p < 2 ^ (8 * size)) (hdb : IsKB (bytesKind prog w) odb D)
    (H : HashFn g fa ta) (hot : IsTbl prog w ot T) (hsz : T.length ≤ 100000) (hszD : D.length ≤ 100000) (lo : (ta == sysModules) = false) (ok : DbOk T D)
    (hin : In T D (8 * size) f root.toList)
    (ret : ∀ r pvs bs root' n6 n ot' odb' T' D' h' tk', (∀ a o, g.get? a = some o → h'.get? a = some o) → (∀ a ∈ [(x, instObj 140 dx), (dx, dictOf (treeEs w t1 t2 t3 t4 t5 t6 (.int size u1) (.int (8 * size : Int) u2) (.bytes dflt u3) (.ref fa) (.ref da) (.bytes root' n6)) 6), (da, odb'), (ta, ot')], h'.get? a.1 = some a.2) →
      h'.get? r = some { cls := .type "tuple", data := .seq (List.toArray pvs) n } → Fresh g [(x, instObj 140 dx), (dx, instObj 140 dx), (da, odb), (ta, ot)] r →
      Octs pvs bs → Ons T' (upd f p v.toList) p (8 * size) bs → Ext (8 * size + 1) T T' → IsTbl prog w ot' T' → IsKB (bytesKind prog w) odb' D' → DbOk T' D' → Over D D' → D'.length ≤ D.length + (8 * size + 1) → In T' D' (8 * size) (upd f p v.toList) root'.toList → R (.ok (.ret (.ref r))) { s with heap := h', toks := tk' }) :
    codeAny (model prog w) A (.call (.ref 95) ⟨[.ref x, .bytes key kt, .bytes v vt], []⟩) R s := by
  refine enterK (binds := [("self", .ref x), ("key", .bytes key kt), ("value", .bytes v vt)]) S hL (by k_is) (by k_is) (by omega) (BindsTo.of_eq rfl) (locs rfl) ?_ (by decide) rfl rfl rfl
  intro base fr dp un gd pp loose mean mg mb L h₁ eA B X TT F N l1
  subst eA
  simp only [Ar] at hroom
  subst hkey
  have hkr : key.size = key.size := rfl
  let od9 : Obj := dictOf (treeEs w t1 t2 t3 t4 t5 t6 (.int key.size u1) (.int (8 * key.size : Int) u2) (.bytes dflt u3) (.ref fa) (.ref da) (.bytes root u6)) 6
  have N : News g L h₁ [(x, instObj 140 dx), (dx, od9), (da, odb), (ta, ot)] := N
  k_steps
  have hbl := hoG.length.trans hsG.1
  have hbl2 : bvsG.length ≤ 1000 := by omega
  unfold Stop
  refine For_invV g (by rfl) (by rfl) ?_
  k_steps
  unfold Stop
  with_reducible rename Fr _ _ _ _ => F1
  with_reducible rename News _ _ _ _ => N1
  refine pick2 N1 fun l2 hl2 => ?_
  subst hl2
  have N1 := drop_at [_, _, _, _] N1
  simp only [List.cons_append, List.nil_append] at N1
  refine iter_rv (fun i m nx => ∃ pvs n node tn tp tt tb ot' odb' T' D', nx = [(l2, listOf pvs.toArray n), (rG, { cls := .type "tuple", data := .seq #[.bytes vG nG, .ref qG] }), (qG, { cls := .type "tuple", data := .seq bvsG.toArray n2G }), (x, instObj 140 dx), (dx, od9), (da, odb'), (ta, ot')] ∧
    m "self" = some (.ref x) ∧ m "path" = some (.int p tp) ∧ m "proof_update" = some (.ref l2) ∧ m "hash_of" = some (.ref fa) ∧ m "node" = some (.bytes node tn) ∧ m "target_bit" = some (.int tb tt) ∧ tb = ((2 ^ i : Nat) : Int) ∧
    IsTbl prog w ot' T' ∧ IsKB (bytesKind prog w) odb' D' ∧ Up T D (upd f p v.toList) p i T' D' node.toList pvs) rfl F1 N1 ?_ (.tail _ (.tail _ (.head _))) rfl rfl hbl2 ?_ ?_ ?_ ?_
  · simp only [AllNe, and_true]; refine ⟨?_, ?_, ?_, ?_, ?_, ?_, ?_⟩ <;> k_extra "z ne1"
  · refine ⟨[], _, v, _, _, _, _, _, _, T, D, rfl, rfl, rfl, rfl, rfl, rfl, rfl, ?_, hot, hdb, Up.zero ok ?_⟩
    · rfl
    · simp [upd]
  · rintro i m nx ⟨pvs, n, node, tn, tp, tt, tb, ot', odb', T', D', rfl, _⟩
    exact .tail _ (.tail _ (.head _))
  · intro i sv m₁ news₁ h tk oI hi hsv hJ hne9 F2 N2
    refine wpGen fun P9 E9 hP9 hE9 => ?_
    try dsimp only
    obtain ⟨pvs, n, node, tn, tp, tt, tb, ot', odb', T', D', rfl, hm1, hm2, hm3, hm4, hm5, hm6, htb, hot', hdb', hup⟩ := hJ
    rw [hbl] at hi
    rw [hbl] at hsv
    obtain ⟨sx, hsx, _⟩ := hsG.2 i hi
    obtain ⟨sb, st, e1, e2⟩ := hoG.back _ hsx
    rw [hsv] at e1
    cases e1
    subst e2
    have hsib := sib_in (v := v.toList) hin hp2 hsG hi hsx
    simp only [AllNe, and_true] at hne9
    have hT9 := hup.ext.len
    have hD9 := hup.len
    have hpl := hup.prf.1
    have hsz9 : T'.length ≤ 1000000 := by omega
    have hsl : sb.toList.length = 32 := hsib.tr.len
    k_steps
    all_goals (with_reducible rename Fr _ _ _ _ => F9)
    all_goals (with_reducible rename News _ _ _ _ => N9)
    all_goals (have hTH := hxH.len)
    · exact hP9 _ _ (show TurnNext _ _ _ _ _ _ _ from ⟨_, _, _, _, rfl, F9, N9, by simp only [AllNe, and_true]; exact hne9, _, _, _, _, _, _, _, _, _, TH, _, rfl, hm1, hm2, hm3, hm4, rfl, rfl, rfl, hotH, hdS, by
        rw [hdA]; simpa using (hup.turn (t := tH) (by omega) hxH hbH hsib).2 (by assumption)⟩)
    · exact hP9 _ _ (show TurnNext _ _ _ _ _ _ _ from ⟨_, _, _, _, rfl, F9, N9, by simp only [AllNe, and_true]; exact hne9, _, _, _, _, _, _, _, _, _, TH, _, rfl, hm1, hm2, hm3, hm4, rfl, rfl, rfl, hotH, hdS, by
        rw [hdA]; simpa using (hup.turn (t := tH) (by omega) hxH hbH hsib).1 (by assumption)⟩)
  · intro m₁ news₁ h tk hJ F2 N2
    refine wpGenE fun E8 hE8 => ?_
    obtain ⟨pvs, n, node, tn, tp, tt, tb, ot', odb', T', D', rfl, hm1, hm2, hm3, hm4, hm5, hm6, htb, hot', hdb', hup⟩ := hJ
    rw [hbl] at hup
    have hT9 := hup.ext.len
    have hD9 := hup.len
    have hpl := hup.prf.1
    have hpl2 : pvs.length ≤ 1000 := by omega
    have hsz9 : T'.length ≤ 1000000 := by omega
    k_steps
    with_reducible rename Fr _ _ _ _ => F9
    with_reducible rename News _ _ _ _ => N9
    have hTH := hxH.len
    obtain ⟨z1, z2, _, z4, z5, z6⟩ := hup.put (by omega) hxH hbH
    rw [low_top hp2, sub_zero] at z6
    obtain ⟨bs, hbs, hons⟩ := hup.prf.ons
    have f1 : Fresh g [(x, instObj 140 dx), (dx, instObj 140 dx), (da, odb), (ta, ot)] DT := ⟨(N9 _ (.head _)).2.2, by k_extra "allne"⟩
    exact ret DT _ bs bH tH _ oH oS TH _ _ _ F9.keep (fun q hq => (N9 q (by
      simp only [List.mem_cons, List.not_mem_nil, or_false] at hq ⊢
      rcases hq with rfl | rfl | rfl | rfl <;> simp)).1) (N9 _ (.head _)).1 f1 hbs (hons.ext hxH) z1 hotH hdS z2 z4 z5 z6
end
end -- S10
section -- S11
theorem lines_s11_1 : True := by
  w_top off
  k_with_none
  (k_with "exec For Name Call cons nil" => (refine stop ?_))
  (k_with "exec For Name Call" => (refine stop ?_))
  (k_with "pyIter ref" => (refine stop ?_))
  (k_with "k_room" => (((try simp only [depth_under_make, depth_under_kw, depth_in1, depth_deeper, depth_caller]); omega)))
  (k_with "compareOp NotEq int int" => (refine ne_same ?_))
  (k_with "call ref" => ((k_here; (with_reducible show wpAny _ _ (call (Value.ref _) [Value.bytes _ _, Value.str _ _]) _ _ _); k_dflt (refine' from_big ?q6N ?q6m ?q6l ?q6p ?_; (case q6N => k_asm); (case q6m => k_mem); (case q6l => omega); (case q6p => assumption)); intro t' k')))
  (k_with "z cj" => (first | with_reducible assumption | exact And.left (by with_reducible assumption) | exact And.left (And.right (by with_reducible assumption)) | exact And.left (And.right (And.right (by with_reducible assumption))) | exact And.left (And.right (And.right (And.right (by with_reducible assumption)))) | exact And.left (And.right (And.right (And.right (And.right (by with_reducible assumption))))) | exact And.left (And.right (And.right (And.right (And.right (And.right (by with_reducible assumption)))))) | exact And.left (And.right (And.right (And.right (And.right (And.right (And.right (by with_reducible assumption))))))) | exact And.left (And.right (And.right (And.right (And.right (And.right (And.right (And.right (by with_reducible assumption)))))))) | exact And.right (by with_reducible assumption) | exact And.right (And.right (by with_reducible assumption)) | exact And.right (And.right (And.right (by with_reducible assumption))) | exact And.right (And.right (And.right (And.right (by with_reducible assumption)))) | exact And.right (And.right (And.right (And.right (And.right (by with_reducible assumption))))) | exact And.right (And.right (And.right (And.right (And.right (And.right (by with_reducible assumption)))))) | exact And.right (And.right (And.right (And.right (And.right (And.right (And.right (by with_reducible assumption)))))))))
  (k_with "z ne1" => (first | k_extra "z cj" | (refine Ne.symm ?_; k_extra "z cj") | exact AllNe.at1 (by with_reducible assumption) (by k_mem) | exact AllNe.at2 (by with_reducible assumption) (by k_mem) | omega))
  (k_with "k_ne" => ((refine PySem.W.neN ?_; (try dsimp only); k_extra "z ne1")))
  (k_with "execs cons" => (((with_reducible show wpAny _ _ (execs (Stmt.Assign _ _ _ :: _) _) _ _ _); refine execsGen fun P8 hP8 => ?_)))
  (k_with "execs cons" => (((with_reducible show wpAny _ _ (execs (Stmt.Expr _ _ :: _) _) _ _ _); refine execsGen fun P8 hP8 => ?_)))
  (k_with "execs cons" => (((with_reducible show wpAny _ _ (execs (Stmt.AugAssign _ _ _ _ :: _) _) _ _ _); refine execsGen fun P8 hP8 => ?_)))
  (k_with "FinQ" => ((refine finOut (by with_reducible assumption) ?_; (try dsimp only))))
  (k_with "call ref" => ((k_here; (with_reducible show wpAny _ _ (call (Value.ref 34) [Value.bytes _ _]) _ _ _); k_dflt (refine' call_valid_bytes ?q7B ?q7F ?q7X ?q7T ?q7N ?q7c1 ?q7c2 ?q7c3 ?q7c4 ?q7r ?_; (case q7F => k_asm); (case q7N => k_asm); (case q7B => k_asm); (case q7X => k_asm); (case q7T => k_asm); (case q7c1 => exact rfl); (case q7c2 => exact rfl); (case q7c3 => exact rfl); (case q7c4 => exact rfl); (case q7r => k_room)); intro h' tk' F' N'; (try k_sweep))))
  (k_with "call ref" => ((k_here; (with_reducible show wpAny _ _ (call (Value.ref 41) [Value.bytes _ _, Value.int _ _]) _ _ _); k_dflt (refine' call_valid_length ?q8B ?q8F ?q8X ?q8T ?q8N ?q8c1 ?q8c2 ?q8c3 ?q8c4 ?q8r ?q8z ?q8n ?_; (case q8F => k_asm); (case q8N => k_asm); (case q8B => k_asm); (case q8X => k_asm); (case q8T => k_asm); (case q8c1 => exact rfl); (case q8c2 => exact rfl); (case q8c3 => exact rfl); (case q8c4 => exact rfl); (case q8r => k_room); (case q8z => omega); (case q8n => omega)); intro h' tk' F' N'; (try k_sweep))))
  (k_with "getMethod type:int" => ((k_here; k_dflt (refine' KFB.getm ?q9kfbF ?q9kfbN ?q9kfbX (find_fb _) ?_; (case q9kfbF => k_asm); (case q9kfbN => k_asm); (case q9kfbX => k_asm); k_whole; intro x' h' F' N' l1; (try k_lt l1); (try k_sweep)))))
  (k_with "eval Name" => ((k_here; k_dflt (refine' nameX_L ?q10F ?q10v ?_ ?q10a ?q10b; (case q10a => rfl); (case q10b => rfl); (case q10F => k_asm); (case q10v => assumption); k_whole))))
  (k_with "subscriptTail" => ((k_here; (with_reducible show wpAny _ _ (subscriptTail _ _ (Value.ref _) (Value.bytes _ _)) _ _ _); k_dflt (refine' kb_item ?q11N ?q11p ?q11d (bk_is _ _) ?q11l ?_; (case q11N => k_asm); (case q11p => k_mem); (case q11d => assumption); (case q11l => assumption); (intro b' t' hb')))))
  (k_with "subscriptTail" => ((k_here; (with_reducible show wpAny _ _ (subscriptTail _ (Expr.Slice none _ none _) (Value.bytes _ _) (Value.ref _)) _ _ _); (with_reducible rename Fr _ _ _ _ => F'); (with_reducible rename News _ _ _ _ => N'); (refine cut_lo (s := ⟨_, _, _, _, _⟩) F' N' (by assumption) (by assumption) (by assumption) ?_); intro _ _ _ _ _ _ _)))
  (k_with "subscriptTail" => ((k_here; (with_reducible show wpAny _ _ (subscriptTail _ (Expr.Slice _ none none _) (Value.bytes _ _) (Value.ref _)) _ _ _); (with_reducible rename Fr _ _ _ _ => F'); (with_reducible rename News _ _ _ _ => N'); (refine cut_hi (s := ⟨_, _, _, _, _⟩) F' N' (by assumption) (by assumption) (by assumption) ?_); intro _ _ _ _ _ _ _)))
  (k_with "binaryOp BitAnd int int" => ((k_here; refine and_bit (by assumption) (fun hbit hpos => ?_) (fun hbit => ?_))))
  (k_with "loadName" => ((k_here; k_dflt (refine' ldn ?q12F ?q12v ?_ ?q12a ?q12b; (case q12a => rfl); (case q12b => rfl); (case q12F => k_asm); (case q12v => assumption); k_whole))))
  (k_with "truthy int" => ((refine truthy_pos (by assumption) ?_)))
  (k_with "hash1" => (exact HashFn.at1 (by assumption) (by k_asm) (by k_asm) (by k_mem)))
  (k_with "callWith ref" => ((k_here; k_dflt (refine' callWith_F ?q13k1 ?_; (case q13k1 => exact HashFn.fnAt (by assumption) (by k_asm)); k_whole))))
  (k_with "FnAt" => (exact HashFn.fnAt (by assumption) (by k_asm)))
  (k_with "And" => (((with_reducible show FnAt _ _ ∧ _); refine ⟨HashFn.fnAt (by assumption) (by k_asm), ?_⟩; try dsimp only [List.nil_append, List.cons_append])))
  (k_with "nm_m10_1" => (intro bH tH h' tk' oH TH F' N' hxH hbH hlH hotH))
  (k_with "nm_m10_2" => ((try dsimp only at N')))
  (k_with "call ref" => ((k_here; (with_reducible show wpAny _ _ (call (Value.ref _) [Value.bytes _ _]) _ _ _); k_dflt (refine' call_hash ?q14B ?q14F ?q14X ?q14T ?q14N ?q14c1 ?q14c2 ?q14c3 ?q14c4 ?q14H ?q14ot ?q14U ?q14z ?q14r ?q14lo ?_; (case q14F => k_asm); (case q14N => k_asm); (case q14B => k_asm); (case q14X => k_asm); (case q14T => k_asm); (case q14c1 => exact rfl); (case q14c2 => exact rfl); (case q14c3 => exact rfl); (case q14c4 => exact rfl); (case q14H => k_extra "hash1"); (case q14ot => assumption); (case q14U => k_updF); (case q14z => omega); (case q14r => k_room); (case q14lo => assumption)); k_extra "nm_m10_1"; k_extra "nm_m10_2"; (try k_sweep))))
  (k_with "call ref" => ((k_here; (with_reducible show wpAny _ _ (call (Value.ref 34) [Value.bytes _ _]) _ _ _); k_dflt (refine' call_valid_bytes ?q7B ?q7F ?q7X ?q7T ?q7N ?q7c1 ?q7c2 ?q7c3 ?q7c4 ?q7r ?_; (case q7F => k_asm); (case q7N => k_asm); (case q7B => k_asm); (case q7X => k_asm); (case q7T => k_asm); (case q7c1 => exact rfl); (case q7c2 => exact rfl); (case q7c3 => exact rfl); (case q7c4 => exact rfl); (case q7r => k_room)); intro h' tk' F' N'; (try k_sweep))))
  (k_with "nm_m10_3" => (intro rG qG bvsG vG bsG nG n2G h' tk' F' N' hrG hqG hqrG hoG hsG hvG))
  (k_with "nm_m10_4" => ((have hrG9 := hrG; have hqG9 := hqG; simp only [AllNe, and_true] at hrG hqG)))
  (k_with "call ref" => ((k_here; (with_reducible show wpAny _ _ (call (Value.ref 88) [Value.ref _, Value.bytes _ _]) _ _ _); k_dflt (refine' call_get ?q15B ?q15F ?q15X ?q15T ?q15N ?q15c1 ?q15c2 ?q15c3 ?q15c4 ?q15m1 ?q15m2 ?q15m3 ?q15ne ?q15r ?q15s1 ?q15s2 ?q15ky ?q15hp ?q15hp2 ?q15db ?q15hin ?_; (case q15F => k_asm); (case q15N => k_asm); (case q15B => k_asm); (case q15X => k_asm); (case q15T => k_asm); (case q15c1 => exact rfl); (case q15c2 => exact rfl); (case q15c3 => exact rfl); (case q15c4 => exact rfl); (case q15m1 => k_mem); (case q15m2 => k_mem); (case q15m3 => k_mem); (case q15ne => (refine ⟨?_, ?_, ?_⟩ <;> k_ne)); (case q15r => k_room); (case q15s1 => omega); (case q15s2 => omega); (case q15ky => assumption); (case q15hp => assumption); (case q15hp2 => assumption); (case q15db => assumption); (case q15hin => assumption)); k_extra "nm_m10_3"; k_extra "nm_m10_4"; (try k_sweep))))
  (k_with "nm_m10_5" => ((intro DR h' tk' F' N' l1; (try k_lt l1))))
  (k_with "call type:reversed" => ((k_here; (with_reducible show wpAny _ _ (call (Value.type _) [Value.ref _]) _ _ _); k_dflt (refine' reversed_tup ?q16F ?q16N ?q16m ?q16z ?_; (case q16F => k_asm); (case q16N => k_asm); (case q16m => k_mem); (case q16z => assumption)); k_extra "nm_m10_5"; (try k_sweep))))
  (k_with "nm_m10_6" => (intro h' oS F' N' hdS))
  (k_with "nm_m10_7" => ((try dsimp only at N')))
  (k_with "setItem ref bytes" => ((k_here; (with_reducible show wpAny _ _ (setItem (Value.ref _) (Value.bytes _ _) (Value.bytes _ _)) _ _ _); k_dflt (refine' kb_set ?q17F ?q17N ?q17U ?q17d (bk_is _ _) ?q17z ?_; (case q17F => k_asm); (case q17N => k_asm); (case q17U => k_updF); (case q17d => assumption); (case q17z => (simp only [sizeLine_eq]; omega)); (k_extra "nm_m10_6"); k_extra "nm_m10_7"))))
  (k_with "nm_m10_8" => (intro dA tA kA hdA))
  (k_with "binaryOp Add bytes bytes" => ((k_here; (with_reducible show wpAny _ _ (binaryOp Operator.Add (Value.bytes _ _) (Value.bytes _ _)) _ _ _); refine add_octs (by assumption) (by assumption) ?_; k_extra "nm_m10_8")))
  (k_with "nm_m10_9" => (intro tA kA))
  (k_with "inplaceOp LShift int int" => ((k_here; refine shl_pow (by assumption) (by omega) ?_; k_extra "nm_m10_9")))
  (k_with "allne" => ((simp only [AllNe, and_true]; (repeat' apply And.intro) <;> k_extra "z ne1")))
  (k_with "nm_m10_10" => ((intro DT h' tk' F' N' l1; (try k_lt l1))))
  (k_with "call type:tuple" => ((k_here; (with_reducible show wpAny _ _ (call (Value.type _) [Value.ref _]) _ _ _); k_dflt (refine' tuple_rev ?q18hh ?q18F ?q18N ?q18m ?q18c ?q18d ?q18ne ?q18z ?_; (case q18hh => exact rfl); (case q18F => k_asm); (case q18N => k_asm); (case q18m => k_mem); (case q18c => exact rfl); (case q18d => exact rfl); (case q18ne => k_extra "allne"); (case q18z => assumption)); k_extra "nm_m10_10"; (try k_sweep))))
  trivial
theorem kb_empty {prog : Program} {w : World} {K K' : Type} [DecidableEq K] [DecidableEq K'] {k' : KeyKind prog w K'} (knd : KeyKind prog w K) {o : Obj} (h : o.IsDictOf k' []) : IsKB knd o [] := by
  obtain ⟨es, ep, hx, hd, hk, hp, hn⟩ := h
  have e : es.toList = [] := by
    generalize es.toList = l at hp
    cases hp; rfl
  have e2 : es = #[] := by rw [← Array.toArray_toList (xs := es), e]
  subst e2
  exact ⟨[], ⟨#[], ep, hx, hd, fun e he => by simp at he, .nil, List.nodup_nil⟩, rfl⟩
def cst (d : Oct) : Nat → Oct := fun _ => d
section
variable {T0 T T' : List Oct} {D0 D : List (Oct × Oct)} {d : Oct} {i : Nat} {node : Oct} {pvs : List Value} {nh : Array UInt8} {t : Tok}
theorem Up.both (u : Up T0 D0 (cst d) 0 i T D node pvs) (hT : T'.length < 2 ^ 60) (e : Ext 1 T T') (hh : hsh T' node = some nh.toList) :
    Up T0 D0 (cst d) 0 (i + 1) T' (Smt.put D nh.toList node) (nh.toList ++ nh.toList) (pvs ++ [.bytes nh t]) := by
  obtain ⟨e1, ok, _, ov, hl, hin⟩ := u.put hT e hh
  have up := Node.up (s := nh.toList) hin hin
  exact ⟨e1, ok, ov, hl, up.1 (by simp), u.prf.snoc e hin.tr⟩
end
abbrev treeEs5 (w : World) (t1 t2 t3 t4 t5 : Tok) (vsize vdepth vdef vh vdb : Value) : List DictEntry :=
  [⟨PyData.keyHash w.params "_key_size", .str "_key_size" t1, vsize⟩, ⟨PyData.keyHash w.params "depth", .str "depth" t2, vdepth⟩, ⟨PyData.keyHash w.params "_default", .str "_default" t3, vdef⟩,
   ⟨PyData.keyHash w.params "hash_of", .str "hash_of" t4, vh⟩, ⟨PyData.keyHash w.params "db", .str "db" t5, vdb⟩]
theorem pickH {g h : Heap} {L : Addr} {m : Str → Option Value} {P : Prop} (F : Fr g L h m) (k : ∀ h9, h9 = h → P) : P := k _ rfl
theorem pickO {g h : Heap} {L a : Addr} {oa : Obj} {rest : List (Addr × Obj)} {P : Prop} (N : News g L h ((a, oa) :: rest)) (k : ∀ l o, l = a → o = oa → P) : P := k _ _ rfl rfl
theorem led4 {α : Type} {P : α → Prop} {a b c d : α} (h1 : P a) (h2 : P b) (h3 : P c) (h4 : P d) : ∀ q ∈ [a, b, c, d], P q := by
  intro q hq
  simp only [List.mem_cons, List.not_mem_nil, or_false] at hq
  rcases hq with rfl | rfl | rfl | rfl <;> assumption
theorem led3 {α : Type} {P : α → Prop} {a b c : α} (h1 : P a) (h2 : P b) (h3 : P c) : ∀ q ∈ [a, b, c], P q := by
  intro q hq
  simp only [List.mem_cons, List.not_mem_nil, or_false] at hq
  rcases hq with rfl | rfl | rfl <;> assumption
theorem fillit11 : PySem.Challenge.rw_iw0038_01.foot = 7 ∧ hd0.heap_1 = hd0.heap_1 := by
  k_fill
  exact ⟨rfl, rfl⟩
section
variable {prog : Program} {w : World} {A : Around} {s : Shared} {g : Heap} {R : Result → Shared → Prop} {fa ta x dx : Addr} {ot : Obj} {T : List Oct} {dflt : Array UInt8} {u1 u3 : Tok} {size : Nat} {args : Args}
set_option maxHeartbeats 4000000 in
theorem init_ (S : Site w A g s.heap) (hL : Led g s.heap [(x, instObj 140 dx), (dx, dictOf [] 0), (ta, ot)])
    (hne : @Ne Nat x dx ∧ @Ne Nat x ta ∧ @Ne Nat dx ta) (hroom : A.depth + 4 < recursionLimit) (hs1 : 1 ≤ size) (hs2 : size ≤ 32)
    (hb : ∀ fd o, (hd0.heap_1 w.params).lookup 56 = some o → o.data = .func fd → BindsTo s fd args [("self", .ref x), ("hash_of", .ref fa), ("key_size", .int (size : Int) u1), ("default", .bytes dflt u3)])
    (H : HashFn g fa ta) (hot : IsTbl prog w ot T) (hsz : T.length ≤ 100000) (lo : (ta == sysModules) = false)
    (ret : ∀ da root t1 t2 t3 t4 t5 t6 u2 u6 ot' odb' T' D' h' tk', (∀ a o, g.get? a = some o → h'.get? a = some o) → (∀ a ∈ [(x, instObj 140 dx), (dx, dictOf (treeEs w t1 t2 t3 t4 t5 t6 (.int size u1) (.int (8 * size : Int) u2) (.bytes dflt u3) (.ref fa) (.ref da) (.bytes root u6)) 6), (da, odb'), (ta, ot')], h'.get? a.1 = some a.2) →
      Fresh g [(x, instObj 140 dx), (dx, instObj 140 dx), (ta, ot)] da →
      Ext (8 * size + 1) T T' → IsTbl prog w ot' T' → IsKB (bytesKind prog w) odb' D' → DbOk T' D' → D'.length ≤ 8 * size + 1 → In T' D' (8 * size) (cst dflt.toList) root.toList → R (.ok (.ret .none)) { s with heap := h', toks := tk' }) :
    codeAny (model prog w) A (.call (.ref 56) args) R s := by
  refine enterK (binds := [("self", .ref x), ("hash_of", .ref fa), ("key_size", .int (size : Int) u1), ("default", .bytes dflt u3)]) S hL (by k_is) (by k_is) (by omega) (hb _ _ (by k_is) rfl) (locs rfl) ?_ (by decide) rfl rfl rfl
  intro base fr dp un gd pp loose mean mg mb L h₁ eA B X TT F N l1
  subst eA
  simp only [Ar] at hroom
  k_steps
  unfold Stop
  refine For_invV g (by rfl) (by rfl) ?_
  k_steps
  unfold Stop
  with_reducible rename Fr _ _ _ _ => F1
  with_reducible rename News _ _ _ _ => N1
  with_reducible rename IsRange _ _ _ _ _ _ _ _ => hr1
  have e8 : (size : Int) * 8 = 8 * (size : Int) := by omega
  refine pickO N1 fun da o0 hda ho0 => ?_
  subst hda ho0
  have hkb := kb_empty (bytesKind prog w) (o := o0) (k' := strKind prog w) (by assumption)
  refine pickH F1 fun hh hhe => ?_
  subst hhe
  obtain ⟨t1, t2, t3, t4, t5, u2, N2⟩ : ∃ t1 t2 t3 t4 t5 u2, News g L hh [(da, o0), (x, instObj 140 dx), (dx, dictOf (treeEs5 w t1 t2 t3 t4 t5 (.int size u1) (.int (8 * size : Int) u2) (.bytes dflt u3) (.ref fa) (.ref da)) 5), (ta, ot)] := ⟨_, _, _, _, _, _, by rw [← e8]; exact N1⟩
  clear N1
  rw [e8] at hr1
  refine iter_upto (n := 8 * size) (fun i m nx => ∃ node tn odb' ot' T' D' pvs, nx = [(da, odb'), (x, instObj 140 dx), (dx, dictOf (treeEs5 w t1 t2 t3 t4 t5 (.int size u1) (.int (8 * size : Int) u2) (.bytes dflt u3) (.ref fa) (.ref da)) 5), (ta, ot')] ∧
    m "self" = some (.ref x) ∧ m "hash_of" = some (.ref fa) ∧ m "node" = some (.bytes node tn) ∧ IsTbl prog w ot' T' ∧ IsKB (bytesKind prog w) odb' D' ∧ Up T [] (cst dflt.toList) 0 i T' D' node.toList pvs) rfl hr1 (by omega) F1 N2 ?_ ?_ ?_
  · exact ⟨_, _, _, _, T, [], [], rfl, rfl, rfl, rfl, hot, hkb, Up.zero (DbOk.nil _) rfl⟩
  · intro i t m₁ news₁ h tk I oI hi hJ hne9 F2 N3
    refine wpGen fun P9 E9 hP9 hE9 => ?_
    try dsimp only
    obtain ⟨node, tn, odb', ot', T', D', pvs, rfl, hm1, hm2, hm3, hot', hdb', hup⟩ := hJ
    simp only [AllNe, and_true] at hne9
    have hT9 := hup.ext.len
    have hD9 := hup.len
    simp only [List.length_nil] at hD9
    have hsz9 : T'.length ≤ 1000000 := by omega
    k_steps
    with_reducible rename Fr _ _ _ _ => F9
    with_reducible rename News _ _ _ _ => N9
    have hTH := hxH.len
    exact hP9 _ _ (show TurnNext _ _ _ _ _ _ _ from ⟨_, _, _, _, rfl, F9, fun q hq => N9 q hq, by simp only [AllNe, and_true]; exact hne9, _, _, _, _, TH, _, _, rfl, hm1, hm2, rfl, hotH, hdS, by
        rw [hdA]; exact hup.both (t := tH) (by omega) hxH hbH⟩)
  · intro m₁ news₁ h tk hJ F2 N3
    refine wpGenE fun E8 hE8 => ?_
    obtain ⟨node, tn, odb', ot', T', D', pvs, rfl, hm1, hm2, hm3, hot', hdb', hup⟩ := hJ
    have hT9 := hup.ext.len
    have hD9 := hup.len
    simp only [List.length_nil] at hD9
    have hsz9 : T'.length ≤ 1000000 := by omega
    k_steps
    with_reducible rename Fr _ _ _ _ => F9
    with_reducible rename News _ _ _ _ => N9
    have hTH := hxH.len
    obtain ⟨z1, z2, _, _, z5, z6⟩ := hup.put (by omega) hxH hbH
    simp only [List.length_nil, Nat.zero_add] at z5
    have f1 : Fresh g [(x, instObj 140 dx), (dx, instObj 140 dx), (ta, ot)] da := ⟨(N9 _ (.head _)).2.2, by k_extra "allne"⟩
    exact ret da bH _ _ _ _ _ _ _ tH oH oS TH _ _ _ F9.keep (led4 (N9 _ (.tail _ (.head _))).1 (N9 _ (.tail _ (.tail _ (.head _)))).1 (N9 _ (.head _)).1 (N9 _ (.tail _ (.tail _ (.tail _ (.head _))))).1) f1 z1 hotH hdS z2 z5 z6
end
end -- S11
section -- S12a
/-! sites of calls that may raise -/
structure SiteX (w : World) (A : Around) (g h : Heap) : Prop extends Site w A g h where
  inb : ∃ base fr, Below A base fr g ∧ (hd0.heap_1 w.params).In base ∧ (∃ p loose mean mg mb, Top p loose mean mg mb base) ∧ KtsDicts (fr.filterMap (·.frame)) g
theorem hide_notin {led : List (Addr × Obj)} {g h : Heap} {L b : Addr} {news : List (Addr × Obj)} (N : News g L h news) (hl : ∀ p ∈ led, p ∈ news) (hb : g.get? b ≠ none) : b ∉ led.map (·.1) := fun q => by
  obtain ⟨p, hp, rfl⟩ := List.mem_map.mp q
  exact hb (N p (hl p hp)).2.2
section
variable {prog : Program} {w : World} {A : Around} {s : Shared} {g : Heap} {led : List (Addr × Obj)} {R : Result → Shared → Prop} {name qual : Str} {params : Arguments} {body : List Stmt} {scope : Scope} {dV kV doc pm cdv ct oc : Value} {an od : Option Addr} {osl : Array (Option Value)} {f : Addr} {args : Args} {binds : List (Str × Value)}
theorem enterKX (S : SiteX w A g s.heap) (hL : Led g s.heap led) (ho : (hd0.heap_1 w.params).lookup f = some ⟨oc, od, .func (fnOf name qual params body scope dV kV doc pm an cdv ct), osl⟩) (hcd : codeIn (hd0.heap_1 w.params) cdv qual = true) (hroom : A.depth < recursionLimit)
    (hbind : BindsTo s (fnOf name qual params body scope dV kV doc pm an cdv ct) args binds) (hloc : ∀ y ∈ binds, scope.names.lookup y.1 = some .local)
    (h : ∀ base fr dp un gd p loose mean mg mb p' loose' mean' mg' mb' L h₁, A = Ar dp un gd fr → Below A base fr g → (hd0.heap_1 w.params).In g → Top p loose mean mg mb g → (hd0.heap_1 w.params).In base → Top p' loose' mean' mg' mb' base → KtsDicts (fr.filterMap (·.frame)) g → Fr g L h₁ (fun y => binds.reverse.lookup y) → News g L h₁ led → (∀ q ∈ led, q.1 < L) →
      wpAny (model prog w) (A.deeper (envOf qual scope L f cdv)) (execs body (envOf qual scope L f cdv))
        (fun fl s' => R (.ok (.ret (match fl with | .ret v => v | _ => .none))) s')
        (fun e s' => wpAny (model prog w) (A.deeper (envOf qual scope L f cdv)) (leaving (envOf qual scope L f cdv) e) (fun _ s'' => R (.error e) s'') (fun e' s'' => R (.error e') s'') s')
        { s with heap := h₁, toks := s.toks + binds.length })
    (hcell : ∀ x ∈ scope.names, x.2 ≠ .cell) (hco : scope.isCoroutine = false) (hgen : scope.isGenerator = false) (hk : scope.kind = .function) : codeAny (model prog w) A (.call (.ref f) args) R s := by
  obtain ⟨base, fr, B, XB, ⟨p', loose', mean', mg', mb', TB⟩, D⟩ := S.inb
  refine enterK S.toSite hL ho hcd hroom hbind hloc (fun base' fr' dp un gd p loose mean mg mb L h₁ eA B' X TT F N l1 => ?_) hcell hco hgen hk
  have ef : fr' = fr := Option.some.inj (B'.stack.symm.trans B.stack)
  subst ef
  exact h base fr' dp un gd p loose mean mg mb p' loose' mean' mg' mb' L h₁ eA B X TT XB TB D F N l1
end
section
variable {w : World} {A A' : Around} {g h h' : Heap} {L : Addr} {m : Str → Option Value} {base base' : Heap} {fr : List Env} {env : Env} {news led : List (Addr × Obj)}
  {p p' : Program} {loose loose' : List Str} {mean mean' : ExcName → Option Value} {mg mb mg' mb' : Str → Option Value} {e : Addr} {cls : Value}
theorem site_ofX (B : Below A base fr g) (F : Fr g L h m) (X : (hd0.heap_1 w.params).In g) (T : Top p loose mean mg mb g) (XB : (hd0.heap_1 w.params).In base) (TB : Top p' loose' mean' mg' mb' base) (D : KtsDicts (fr.filterMap (·.frame)) g) (N : News g L h led)
    (hA : A'.frames = some (env :: fr)) (hf : env.frame = some L) (hke : env.scope.kind = .function) (hh : A'.handled = none) :
    SiteX w A' (hideAll h (led.map (·.1))) h ∧ Led (hideAll h (led.map (·.1))) h led := by
  obtain ⟨S, hL⟩ := site_of B F X T N hA hf hke hh
  have st : g.StaysIn (hideAll h (led.map (·.1))) := fun b o q => hideAll_get _ (F.keep b o q) (hide_notin N (fun _ x => x) (by rw [q]; simp))
  obtain ⟨b0, f0, B0⟩ := S.below
  have e0 : f0 = env :: fr := Option.some.inj (B0.stack.symm.trans hA)
  have nL : L ∉ led.map (·.1) := fun q => by
    obtain ⟨p, hp, e⟩ := List.mem_map.mp q
    exact (N p hp).2.1 e
  have B₁ := pushX B F hf hke
  refine ⟨⟨S, base, env :: fr, ⟨hA, fun b o q => st b o (B.stays b o q), ?_⟩, XB, ⟨p', loose', mean', mg', mb', TB⟩, ?_⟩, hL⟩
  · refine funFrames_hideAll B₁.frames fun env' he b hb hf' => ?_
    cases he with
    | head => exact nL ((Option.some.inj (hf.symm.trans hf') : L = b) ▸ hb)
    | tail _ he =>
      obtain ⟨L₁, o₁, hf₁, ho₁⟩ := funFrames_in B.frames env' he
      rw [hf₁] at hf'
      exact hide_notin N (fun _ x => x) (by rw [ho₁]; simp) ((Option.some.inj hf' : L₁ = b) ▸ hb)
  · intro b hb
    obtain ⟨env', he, hf'⟩ := List.mem_filterMap.mp hb
    rcases List.mem_cons.mp he with rfl | he
    · have : L = b := Option.some.inj (hf.symm.trans hf')
      subst this
      obtain ⟨oL, es, ep, hL', hd, _⟩ := F.ns
      exact ⟨oL, es, ep, hideAll_get _ hL' nL, hd⟩
    · obtain ⟨o, es, n, ho, hd⟩ := D b (List.mem_filterMap.mpr ⟨env', he, hf'⟩)
      exact ⟨o, es, n, st _ _ ho, hd⟩
/-- what a call raised, seen by the caller -/
theorem raise_back (B : Below A base fr g) (F : Fr g L h m) (N : News g L h news) (hl : ∀ p ∈ led, p ∈ news) (hf : env.frame = some L) (hke : env.scope.kind = .function)
    (R : RaisedSN base' (hideAll h (led.map (·.1))) (env :: fr) e cls led h') (U : (hideAll h (led.map (·.1))).UpToSlots h') :
    RaisedSN base (hideAll h (news.map (·.1))) (env :: fr) e cls news h' ∧ (hideAll h (news.map (·.1))).UpToSlots h' ∧ Fr g L (hideAll h (news.map (·.1))) m := by
  obtain ⟨B', a0, hB, hBG, hn, hfl⟩ := R
  have K' := pushX B F hf hke
  have lm : ∀ b, b ∈ led.map (·.1) → b ∈ news.map (·.1) := fun b hb => by
    obtain ⟨p, hp, rfl⟩ := List.mem_map.mp hb
    exact List.mem_map_of_mem (hl p hp)
  have nf : ∀ q ∈ news, q.1 ∉ (env :: fr).filterMap (·.frame) := fun q hq hm => by
    obtain ⟨env', he, hf'⟩ := List.mem_filterMap.mp hm
    rcases List.mem_cons.mp he with rfl | he
    · exact (N q hq).2.1 (Option.some.inj (hf'.symm.trans hf))
    · obtain ⟨o, ho, _⟩ := (B.frames.mem (List.mem_filterMap.mpr ⟨env', he, hf'⟩)).2
      rw [(N q hq).2.2] at ho; cases ho
  have sub : ∀ b o, (hideAll h (news.map (·.1))).get? b = some o → (hideAll h (led.map (·.1))).get? b = some o := fun b o q =>
    hideAll_get _ (of_hideAll _ q) fun hm => by rw [hideAll_none _ (lm b hm)] at q; cases q
  refine ⟨⟨B', a0, fun b o q => ?_, fun b o q nm => hBG b o (sub b o q) nm, fun q hq => ⟨?_, hideAll_none _ (List.mem_map_of_mem hq), fresh_of_stays B.stays (N q hq).2.2⟩, hfl⟩, (Heap.UpToSlots.of_keeps sub).trans U, ?_⟩
  · refine hBG b o (hideAll_get _ (F.keep b o (B.stays b o q)) (hide_notin N hl (by rw [B.stays b o q]; simp))) fun hm => ?_
    rw [(K'.frames.mem hm).1] at q; cases q
  · by_cases hm : q.1 ∈ led.map (·.1)
    · obtain ⟨p, hp, e1⟩ := List.mem_map.mp hm
      have h1 := (N p (hl p hp)).1
      rw [e1, (N q hq).1] at h1
      have e2 : p = q := Prod.ext e1 (Option.some.inj h1).symm
      rw [← e2]; exact (hn p hp).1
    · exact hBG _ _ (hideAll_get _ (N q hq).1 hm) (nf q hq)
  · have nL : L ∉ news.map (·.1) := fun q => by
      obtain ⟨p, hp, e⟩ := List.mem_map.mp q
      exact (N p hp).2.1 e
    obtain ⟨oL, es, ep, hL', r⟩ := F.ns
    exact ⟨⟨oL, es, ep, hideAll_get _ hL' nL, r⟩, fun b o q => hideAll_get _ (F.keep b o q) (hide_notin N (fun _ x => x) (by rw [q]; simp)), F.above⟩
end
theorem raised_sub {base G : Heap} {l : List Env} {e : Addr} {cls : Value} {news news' : List (Addr × Obj)} {h : Heap} (R : RaisedSN base G l e cls news h) (hs : ∀ p ∈ news', p ∈ news) : RaisedSN base G l e cls news' h := by
  obtain ⟨B, a0, h1, h2, h3, h4⟩ := R
  exact ⟨B, a0, h1, h2, fun q hq => h3 q (hs q hq), h4⟩
end -- S12a
section -- S12b
theorem lines_s12b_1 : True := by
  w_top off
  k_with_none
  (k_with "exec For Name Call cons nil" => (refine stop ?_))
  (k_with "exec For Name Call" => (refine stop ?_))
  (k_with "pyIter ref" => (refine stop ?_))
  (k_with "k_room" => (((try simp only [depth_under_make, depth_under_kw, depth_in1, depth_deeper, depth_caller]); omega)))
  (k_with "compareOp NotEq int int" => (refine ne_same ?_))
  (k_with "call ref" => ((k_here; (with_reducible show wpAny _ _ (call (Value.ref _) [Value.bytes _ _, Value.str _ _]) _ _ _); k_dflt (refine' from_big ?q6N ?q6m ?q6l ?q6p ?_; (case q6N => k_asm); (case q6m => k_mem); (case q6l => omega); (case q6p => assumption)); intro t' k')))
  (k_with "z cj" => (first | with_reducible assumption | exact And.left (by with_reducible assumption) | exact And.left (And.right (by with_reducible assumption)) | exact And.left (And.right (And.right (by with_reducible assumption))) | exact And.left (And.right (And.right (And.right (by with_reducible assumption)))) | exact And.left (And.right (And.right (And.right (And.right (by with_reducible assumption))))) | exact And.left (And.right (And.right (And.right (And.right (And.right (by with_reducible assumption)))))) | exact And.left (And.right (And.right (And.right (And.right (And.right (And.right (by with_reducible assumption))))))) | exact And.left (And.right (And.right (And.right (And.right (And.right (And.right (And.right (by with_reducible assumption)))))))) | exact And.right (by with_reducible assumption) | exact And.right (And.right (by with_reducible assumption)) | exact And.right (And.right (And.right (by with_reducible assumption))) | exact And.right (And.right (And.right (And.right (by with_reducible assumption)))) | exact And.right (And.right (And.right (And.right (And.right (by with_reducible assumption))))) | exact And.right (And.right (And.right (And.right (And.right (And.right (by with_reducible assumption)))))) | exact And.right (And.right (And.right (And.right (And.right (And.right (And.right (by with_reducible assumption)))))))))
  (k_with "z ne1" => (first | k_extra "z cj" | (refine Ne.symm ?_; k_extra "z cj") | exact AllNe.at1 (by with_reducible assumption) (by k_mem) | exact AllNe.at2 (by with_reducible assumption) (by k_mem) | omega))
  (k_with "k_ne" => ((refine PySem.W.neN ?_; (try dsimp only); k_extra "z ne1")))
  (k_with "execs cons" => (((with_reducible show wpAny _ _ (execs (Stmt.Assign _ _ _ :: _) _) _ _ _); refine execsGen fun P8 hP8 => ?_)))
  (k_with "execs cons" => (((with_reducible show wpAny _ _ (execs (Stmt.Expr _ _ :: _) _) _ _ _); refine execsGen fun P8 hP8 => ?_)))
  (k_with "execs cons" => (((with_reducible show wpAny _ _ (execs (Stmt.AugAssign _ _ _ _ :: _) _) _ _ _); refine execsGen fun P8 hP8 => ?_)))
  (k_with "FinQ" => ((refine finOut (by with_reducible assumption) ?_; (try dsimp only))))
  (k_with "call ref" => ((k_here; (with_reducible show wpAny _ _ (call (Value.ref 34) [Value.bytes _ _]) _ _ _); k_dflt (refine' call_valid_bytes ?q7B ?q7F ?q7X ?q7T ?q7N ?q7c1 ?q7c2 ?q7c3 ?q7c4 ?q7r ?_; (case q7F => k_asm); (case q7N => k_asm); (case q7B => k_asm); (case q7X => k_asm); (case q7T => k_asm); (case q7c1 => exact rfl); (case q7c2 => exact rfl); (case q7c3 => exact rfl); (case q7c4 => exact rfl); (case q7r => k_room)); intro h' tk' F' N'; (try k_sweep))))
  (k_with "call ref" => ((k_here; (with_reducible show wpAny _ _ (call (Value.ref 41) [Value.bytes _ _, Value.int _ _]) _ _ _); k_dflt (refine' call_valid_length ?q8B ?q8F ?q8X ?q8T ?q8N ?q8c1 ?q8c2 ?q8c3 ?q8c4 ?q8r ?q8z ?q8n ?_; (case q8F => k_asm); (case q8N => k_asm); (case q8B => k_asm); (case q8X => k_asm); (case q8T => k_asm); (case q8c1 => exact rfl); (case q8c2 => exact rfl); (case q8c3 => exact rfl); (case q8c4 => exact rfl); (case q8r => k_room); (case q8z => omega); (case q8n => omega)); intro h' tk' F' N'; (try k_sweep))))
  (k_with "getMethod type:int" => ((k_here; k_dflt (refine' KFB.getm ?q9kfbF ?q9kfbN ?q9kfbX (find_fb _) ?_; (case q9kfbF => k_asm); (case q9kfbN => k_asm); (case q9kfbX => k_asm); k_whole; intro x' h' F' N' l1; (try k_lt l1); (try k_sweep)))))
  (k_with "eval Name" => ((k_here; k_dflt (refine' nameX_L ?q10F ?q10v ?_ ?q10a ?q10b; (case q10a => rfl); (case q10b => rfl); (case q10F => k_asm); (case q10v => assumption); k_whole))))
  (k_with "subscriptTail" => ((k_here; (with_reducible show wpAny _ _ (subscriptTail _ _ (Value.ref _) (Value.bytes _ _)) _ _ _); k_dflt (refine' kb_item ?q11N ?q11p ?q11d (bk_is _ _) ?q11l ?_; (case q11N => k_asm); (case q11p => k_mem); (case q11d => assumption); (case q11l => assumption); (intro b' t' hb')))))
  (k_with "subscriptTail" => ((k_here; (with_reducible show wpAny _ _ (subscriptTail _ (Expr.Slice none _ none _) (Value.bytes _ _) (Value.ref _)) _ _ _); (with_reducible rename Fr _ _ _ _ => F'); (with_reducible rename News _ _ _ _ => N'); (refine cut_lo (s := ⟨_, _, _, _, _⟩) F' N' (by assumption) (by assumption) (by assumption) ?_); intro _ _ _ _ _ _ _)))
  (k_with "subscriptTail" => ((k_here; (with_reducible show wpAny _ _ (subscriptTail _ (Expr.Slice _ none none _) (Value.bytes _ _) (Value.ref _)) _ _ _); (with_reducible rename Fr _ _ _ _ => F'); (with_reducible rename News _ _ _ _ => N'); (refine cut_hi (s := ⟨_, _, _, _, _⟩) F' N' (by assumption) (by assumption) (by assumption) ?_); intro _ _ _ _ _ _ _)))
  (k_with "binaryOp BitAnd int int" => ((k_here; refine and_bit (by assumption) (fun hbit hpos => ?_) (fun hbit => ?_))))
  (k_with "loadName" => ((k_here; k_dflt (refine' ldn ?q12F ?q12v ?_ ?q12a ?q12b; (case q12a => rfl); (case q12b => rfl); (case q12F => k_asm); (case q12v => assumption); k_whole))))
  (k_with "truthy int" => ((refine truthy_pos (by assumption) ?_)))
  (k_with "hash1" => (exact HashFn.at1 (by assumption) (by k_asm) (by k_asm) (by k_mem)))
  (k_with "callWith ref" => ((k_here; k_dflt (refine' callWith_F ?q13k1 ?_; (case q13k1 => exact HashFn.fnAt (by assumption) (by k_asm)); k_whole))))
  (k_with "FnAt" => (exact HashFn.fnAt (by assumption) (by k_asm)))
  (k_with "And" => (((with_reducible show FnAt _ _ ∧ _); refine ⟨HashFn.fnAt (by assumption) (by k_asm), ?_⟩; try dsimp only [List.nil_append, List.cons_append])))
  (k_with "nm_m10_1" => (intro bH tH h' tk' oH TH F' N' hxH hbH hlH hotH))
  (k_with "nm_m10_2" => ((try dsimp only at N')))
  (k_with "call ref" => ((k_here; (with_reducible show wpAny _ _ (call (Value.ref _) [Value.bytes _ _]) _ _ _); k_dflt (refine' call_hash ?q14B ?q14F ?q14X ?q14T ?q14N ?q14c1 ?q14c2 ?q14c3 ?q14c4 ?q14H ?q14ot ?q14U ?q14z ?q14r ?q14lo ?_; (case q14F => k_asm); (case q14N => k_asm); (case q14B => k_asm); (case q14X => k_asm); (case q14T => k_asm); (case q14c1 => exact rfl); (case q14c2 => exact rfl); (case q14c3 => exact rfl); (case q14c4 => exact rfl); (case q14H => k_extra "hash1"); (case q14ot => assumption); (case q14U => k_updF); (case q14z => omega); (case q14r => k_room); (case q14lo => assumption)); k_extra "nm_m10_1"; k_extra "nm_m10_2"; (try k_sweep))))
  (k_with "call ref" => ((k_here; (with_reducible show wpAny _ _ (call (Value.ref 34) [Value.bytes _ _]) _ _ _); k_dflt (refine' call_valid_bytes ?q7B ?q7F ?q7X ?q7T ?q7N ?q7c1 ?q7c2 ?q7c3 ?q7c4 ?q7r ?_; (case q7F => k_asm); (case q7N => k_asm); (case q7B => k_asm); (case q7X => k_asm); (case q7T => k_asm); (case q7c1 => exact rfl); (case q7c2 => exact rfl); (case q7c3 => exact rfl); (case q7c4 => exact rfl); (case q7r => k_room)); intro h' tk' F' N'; (try k_sweep))))
  (k_with "nm_m10_3" => (intro rG qG bvsG vG bsG nG n2G h' tk' F' N' hrG hqG hqrG hoG hsG hvG))
  (k_with "nm_m10_4" => ((have hrG9 := hrG; have hqG9 := hqG; simp only [AllNe, and_true] at hrG hqG)))
  (k_with "call ref" => ((k_here; (with_reducible show wpAny _ _ (call (Value.ref 88) [Value.ref _, Value.bytes _ _]) _ _ _); k_dflt (refine' call_get ?q15B ?q15F ?q15X ?q15T ?q15N ?q15c1 ?q15c2 ?q15c3 ?q15c4 ?q15m1 ?q15m2 ?q15m3 ?q15ne ?q15r ?q15s1 ?q15s2 ?q15ky ?q15hp ?q15hp2 ?q15db ?q15hin ?_; (case q15F => k_asm); (case q15N => k_asm); (case q15B => k_asm); (case q15X => k_asm); (case q15T => k_asm); (case q15c1 => exact rfl); (case q15c2 => exact rfl); (case q15c3 => exact rfl); (case q15c4 => exact rfl); (case q15m1 => k_mem); (case q15m2 => k_mem); (case q15m3 => k_mem); (case q15ne => (refine ⟨?_, ?_, ?_⟩ <;> k_ne)); (case q15r => k_room); (case q15s1 => omega); (case q15s2 => omega); (case q15ky => assumption); (case q15hp => assumption); (case q15hp2 => assumption); (case q15db => assumption); (case q15hin => assumption)); k_extra "nm_m10_3"; k_extra "nm_m10_4"; (try k_sweep))))
  (k_with "nm_m10_5" => ((intro DR h' tk' F' N' l1; (try k_lt l1))))
  (k_with "call type:reversed" => ((k_here; (with_reducible show wpAny _ _ (call (Value.type _) [Value.ref _]) _ _ _); k_dflt (refine' reversed_tup ?q16F ?q16N ?q16m ?q16z ?_; (case q16F => k_asm); (case q16N => k_asm); (case q16m => k_mem); (case q16z => assumption)); k_extra "nm_m10_5"; (try k_sweep))))
  (k_with "nm_m10_6" => (intro h' oS F' N' hdS))
  (k_with "nm_m10_7" => ((try dsimp only at N')))
  (k_with "setItem ref bytes" => ((k_here; (with_reducible show wpAny _ _ (setItem (Value.ref _) (Value.bytes _ _) (Value.bytes _ _)) _ _ _); k_dflt (refine' kb_set ?q17F ?q17N ?q17U ?q17d (bk_is _ _) ?q17z ?_; (case q17F => k_asm); (case q17N => k_asm); (case q17U => k_updF); (case q17d => assumption); (case q17z => (simp only [sizeLine_eq]; omega)); (k_extra "nm_m10_6"); k_extra "nm_m10_7"))))
  (k_with "nm_m10_8" => (intro dA tA kA hdA))
  (k_with "binaryOp Add bytes bytes" => ((k_here; (with_reducible show wpAny _ _ (binaryOp Operator.Add (Value.bytes _ _) (Value.bytes _ _)) _ _ _); refine add_octs (by assumption) (by assumption) ?_; k_extra "nm_m10_8")))
  (k_with "nm_m10_9" => (intro tA kA))
  (k_with "inplaceOp LShift int int" => ((k_here; refine shl_pow (by assumption) (by omega) ?_; k_extra "nm_m10_9")))
  (k_with "allne" => ((simp only [AllNe, and_true]; (repeat' apply And.intro) <;> k_extra "z ne1")))
  (k_with "nm_m10_10" => ((intro DT h' tk' F' N' l1; (try k_lt l1))))
  (k_with "call type:tuple" => ((k_here; (with_reducible show wpAny _ _ (call (Value.type _) [Value.ref _]) _ _ _); k_dflt (refine' tuple_rev ?q18hh ?q18F ?q18N ?q18m ?q18c ?q18d ?q18ne ?q18z ?_; (case q18hh => exact rfl); (case q18F => k_asm); (case q18N => k_asm); (case q18m => k_mem); (case q18c => exact rfl); (case q18d => exact rfl); (case q18ne => k_extra "allne"); (case q18z => assumption)); k_extra "nm_m10_10"; (try k_sweep))))
  trivial
theorem fillit12 : PySem.Challenge.rw_iw0038_01.foot = 7 ∧ hd0.heap_1 = hd0.heap_1 := by
  k_fill
  exact ⟨rfl, rfl⟩
theorem oct_nil {a : Array UInt8} {x : Oct} (h : (a.toList == #[].toList) = true) (e : a.toList = x) : x = [] := by
  subst e; exact beq_iff_eq.mp h
theorem oct_cons {a : Array UInt8} {x : Oct} (h : (a.toList == #[].toList) = false) (e : a.toList = x) : x ≠ [] := by
  subst e; exact fun q => by rw [q] at h; exact absurd h (by decide)
abbrev treeLed (w : World) (t1 t2 t3 t4 t5 t6 : Tok) (size : Nat) (u1 u2 : Tok) (dflt : Array UInt8) (u3 : Tok) (fa da : Addr) (root : Array UInt8) (u6 : Tok) (x dx : Addr) (odb : Obj) : List (Addr × Obj) :=
  [(x, instObj 140 dx), (dx, dictOf (treeEs w t1 t2 t3 t4 t5 t6 (.int size u1) (.int (8 * size : Int) u2) (.bytes dflt u3) (.ref fa) (.ref da) (.bytes root u6)) 6), (da, odb)]
section
variable {prog : Program} {w : World} {A : Around} {s : Shared} {g : Heap} {R : Result → Shared → Prop} {fa ta x dx da : Addr} {odb : Obj} {T : List Oct} {D : List (Oct × Oct)} {key dflt root : Array UInt8} {kt t1 t2 t3 t4 t5 t6 u1 u2 u3 u6 : Tok} {size : Nat} {f : Nat → Oct} {p : Nat}
set_option maxHeartbeats 4000000 in
theorem get_pub (S : SiteX w A g s.heap) (hL : Led g s.heap (treeLed w t1 t2 t3 t4 t5 t6 size u1 u2 dflt u3 fa da root u6 x dx odb))
    (hne : @Ne Nat x dx ∧ @Ne Nat x da ∧ @Ne Nat dx da) (hroom : A.depth + 8 < recursionLimit) (hs1 : 1 ≤ size) (hs2 : size ≤ 2) (hkey : key.size = size) (hp : value (oInts key.toList) = (p : Int)) (hp2 : p < 2 ^ (8 * size)) (hdb : IsKB (bytesKind prog w) odb D)
    (hin : In T D (8 * size) f root.toList)
    (ret : ∀ b n h' tk', (∀ a o, g.get? a = some o → h'.get? a = some o) → (∀ a ∈ treeLed w t1 t2 t3 t4 t5 t6 size u1 u2 dflt u3 fa da root u6 x dx odb, h'.get? a.1 = some a.2) → b.toList = f p → f p ≠ [] → R (.ok (.ret (.bytes b n))) { s with heap := h', toks := tk' })
    (rais : ∀ base fr e h' tk', f p = [] → Below A base fr g → RaisedSN base g fr e (.type "KeyError") (treeLed w t1 t2 t3 t4 t5 t6 size u1 u2 dflt u3 fa da root u6 x dx odb) h' → g.UpToSlots h' → R (.error (.ref e)) { s with heap := h', toks := tk' }) :
    codeAny (model prog w) A (.call (.ref 74) ⟨[.ref x, .bytes key kt], []⟩) R s := by
  refine enterKX (binds := [("self", .ref x), ("key", .bytes key kt)]) S hL (by k_is) (by k_is) (by omega) (BindsTo.of_eq rfl) (locs rfl) ?_ (by decide) rfl rfl rfl
  intro base fr dp un gd pp loose mean mg mb pp' loose' mean' mg' mb' L h₁ eA B X TT XB TB DD F N l1
  subst eA
  simp only [Ar] at hroom
  subst hkey
  have hkr : key.size = key.size := rfl
  k_steps
  · with_reducible rename RaisedSN _ _ _ _ _ _ _ => S9
    exact rais base fr _ _ _ (oct_nil (by assumption) hvG) B (raised_sub S9 fun q hq => .tail _ (.tail _ hq)) (by assumption)
  · with_reducible rename Fr _ _ _ _ => F9
    with_reducible rename News _ _ _ _ => N9
    exact ret vG nG _ _ F9.keep (fun q hq => (N9 q (.tail _ (.tail _ hq))).1) hvG (oct_cons (by assumption) hvG)
end
end -- S12b
section -- S12c
theorem lines_s12c_1 : True := by
  w_top off
  k_with_none
  (k_with "exec For Name Call cons nil" => (refine stop ?_))
  (k_with "exec For Name Call" => (refine stop ?_))
  (k_with "pyIter ref" => (refine stop ?_))
  (k_with "k_room" => (((try simp only [depth_under_make, depth_under_kw, depth_in1, depth_deeper, depth_caller]); omega)))
  (k_with "compareOp NotEq int int" => (refine ne_same ?_))
  (k_with "call ref" => ((k_here; (with_reducible show wpAny _ _ (call (Value.ref _) [Value.bytes _ _, Value.str _ _]) _ _ _); k_dflt (refine' from_big ?q6N ?q6m ?q6l ?q6p ?_; (case q6N => k_asm); (case q6m => k_mem); (case q6l => omega); (case q6p => assumption)); intro t' k')))
  (k_with "z cj" => (first | with_reducible assumption | exact And.left (by with_reducible assumption) | exact And.left (And.right (by with_reducible assumption)) | exact And.left (And.right (And.right (by with_reducible assumption))) | exact And.left (And.right (And.right (And.right (by with_reducible assumption)))) | exact And.left (And.right (And.right (And.right (And.right (by with_reducible assumption))))) | exact And.left (And.right (And.right (And.right (And.right (And.right (by with_reducible assumption)))))) | exact And.left (And.right (And.right (And.right (And.right (And.right (And.right (by with_reducible assumption))))))) | exact And.left (And.right (And.right (And.right (And.right (And.right (And.right (And.right (by with_reducible assumption)))))))) | exact And.right (by with_reducible assumption) | exact And.right (And.right (by with_reducible assumption)) | exact And.right (And.right (And.right (by with_reducible assumption))) | exact And.right (And.right (And.right (And.right (by with_reducible assumption)))) | exact And.right (And.right (And.right (And.right (And.right (by with_reducible assumption))))) | exact And.right (And.right (And.right (And.right (And.right (And.right (by with_reducible assumption)))))) | exact And.right (And.right (And.right (And.right (And.right (And.right (And.right (by with_reducible assumption)))))))))
  (k_with "z ne1" => (first | k_extra "z cj" | (refine Ne.symm ?_; k_extra "z cj") | exact AllNe.at1 (by with_reducible assumption) (by k_mem) | exact AllNe.at2 (by with_reducible assumption) (by k_mem) | omega))
  (k_with "k_ne" => ((refine PySem.W.neN ?_; (try dsimp only); k_extra "z ne1")))
  (k_with "execs cons" => (((with_reducible show wpAny _ _ (execs (Stmt.Assign _ _ _ :: _) _) _ _ _); refine execsGen fun P8 hP8 => ?_)))
  (k_with "execs cons" => (((with_reducible show wpAny _ _ (execs (Stmt.Expr _ _ :: _) _) _ _ _); refine execsGen fun P8 hP8 => ?_)))
  (k_with "execs cons" => (((with_reducible show wpAny _ _ (execs (Stmt.AugAssign _ _ _ _ :: _) _) _ _ _); refine execsGen fun P8 hP8 => ?_)))
  (k_with "FinQ" => ((refine finOut (by with_reducible assumption) ?_; (try dsimp only))))
  (k_with "call ref" => ((k_here; (with_reducible show wpAny _ _ (call (Value.ref 34) [Value.bytes _ _]) _ _ _); k_dflt (refine' call_valid_bytes ?q7B ?q7F ?q7X ?q7T ?q7N ?q7c1 ?q7c2 ?q7c3 ?q7c4 ?q7r ?_; (case q7F => k_asm); (case q7N => k_asm); (case q7B => k_asm); (case q7X => k_asm); (case q7T => k_asm); (case q7c1 => exact rfl); (case q7c2 => exact rfl); (case q7c3 => exact rfl); (case q7c4 => exact rfl); (case q7r => k_room)); intro h' tk' F' N'; (try k_sweep))))
  (k_with "call ref" => ((k_here; (with_reducible show wpAny _ _ (call (Value.ref 41) [Value.bytes _ _, Value.int _ _]) _ _ _); k_dflt (refine' call_valid_length ?q8B ?q8F ?q8X ?q8T ?q8N ?q8c1 ?q8c2 ?q8c3 ?q8c4 ?q8r ?q8z ?q8n ?_; (case q8F => k_asm); (case q8N => k_asm); (case q8B => k_asm); (case q8X => k_asm); (case q8T => k_asm); (case q8c1 => exact rfl); (case q8c2 => exact rfl); (case q8c3 => exact rfl); (case q8c4 => exact rfl); (case q8r => k_room); (case q8z => omega); (case q8n => omega)); intro h' tk' F' N'; (try k_sweep))))
  (k_with "getMethod type:int" => ((k_here; k_dflt (refine' KFB.getm ?q9kfbF ?q9kfbN ?q9kfbX (find_fb _) ?_; (case q9kfbF => k_asm); (case q9kfbN => k_asm); (case q9kfbX => k_asm); k_whole; intro x' h' F' N' l1; (try k_lt l1); (try k_sweep)))))
  (k_with "eval Name" => ((k_here; k_dflt (refine' nameX_L ?q10F ?q10v ?_ ?q10a ?q10b; (case q10a => rfl); (case q10b => rfl); (case q10F => k_asm); (case q10v => assumption); k_whole))))
  (k_with "subscriptTail" => ((k_here; (with_reducible show wpAny _ _ (subscriptTail _ _ (Value.ref _) (Value.bytes _ _)) _ _ _); k_dflt (refine' kb_item ?q11N ?q11p ?q11d (bk_is _ _) ?q11l ?_; (case q11N => k_asm); (case q11p => k_mem); (case q11d => assumption); (case q11l => assumption); (intro b' t' hb')))))
  (k_with "subscriptTail" => ((k_here; (with_reducible show wpAny _ _ (subscriptTail _ (Expr.Slice none _ none _) (Value.bytes _ _) (Value.ref _)) _ _ _); (with_reducible rename Fr _ _ _ _ => F'); (with_reducible rename News _ _ _ _ => N'); (refine cut_lo (s := ⟨_, _, _, _, _⟩) F' N' (by assumption) (by assumption) (by assumption) ?_); intro _ _ _ _ _ _ _)))
  (k_with "subscriptTail" => ((k_here; (with_reducible show wpAny _ _ (subscriptTail _ (Expr.Slice _ none none _) (Value.bytes _ _) (Value.ref _)) _ _ _); (with_reducible rename Fr _ _ _ _ => F'); (with_reducible rename News _ _ _ _ => N'); (refine cut_hi (s := ⟨_, _, _, _, _⟩) F' N' (by assumption) (by assumption) (by assumption) ?_); intro _ _ _ _ _ _ _)))
  (k_with "binaryOp BitAnd int int" => ((k_here; refine and_bit (by assumption) (fun hbit hpos => ?_) (fun hbit => ?_))))
  (k_with "loadName" => ((k_here; k_dflt (refine' ldn ?q12F ?q12v ?_ ?q12a ?q12b; (case q12a => rfl); (case q12b => rfl); (case q12F => k_asm); (case q12v => assumption); k_whole))))
  (k_with "truthy int" => ((refine truthy_pos (by assumption) ?_)))
  (k_with "hash1" => (exact HashFn.at1 (by assumption) (by k_asm) (by k_asm) (by k_mem)))
  (k_with "callWith ref" => ((k_here; k_dflt (refine' callWith_F ?q13k1 ?_; (case q13k1 => exact HashFn.fnAt (by assumption) (by k_asm)); k_whole))))
  (k_with "FnAt" => (exact HashFn.fnAt (by assumption) (by k_asm)))
  (k_with "And" => (((with_reducible show FnAt _ _ ∧ _); refine ⟨HashFn.fnAt (by assumption) (by k_asm), ?_⟩; try dsimp only [List.nil_append, List.cons_append])))
  (k_with "nm_m10_1" => (intro bH tH h' tk' oH TH F' N' hxH hbH hlH hotH))
  (k_with "nm_m10_2" => ((try dsimp only at N')))
  (k_with "call ref" => ((k_here; (with_reducible show wpAny _ _ (call (Value.ref _) [Value.bytes _ _]) _ _ _); k_dflt (refine' call_hash ?q14B ?q14F ?q14X ?q14T ?q14N ?q14c1 ?q14c2 ?q14c3 ?q14c4 ?q14H ?q14ot ?q14U ?q14z ?q14r ?q14lo ?_; (case q14F => k_asm); (case q14N => k_asm); (case q14B => k_asm); (case q14X => k_asm); (case q14T => k_asm); (case q14c1 => exact rfl); (case q14c2 => exact rfl); (case q14c3 => exact rfl); (case q14c4 => exact rfl); (case q14H => k_extra "hash1"); (case q14ot => assumption); (case q14U => k_updF); (case q14z => omega); (case q14r => k_room); (case q14lo => assumption)); k_extra "nm_m10_1"; k_extra "nm_m10_2"; (try k_sweep))))
  (k_with "call ref" => ((k_here; (with_reducible show wpAny _ _ (call (Value.ref 34) [Value.bytes _ _]) _ _ _); k_dflt (refine' call_valid_bytes ?q7B ?q7F ?q7X ?q7T ?q7N ?q7c1 ?q7c2 ?q7c3 ?q7c4 ?q7r ?_; (case q7F => k_asm); (case q7N => k_asm); (case q7B => k_asm); (case q7X => k_asm); (case q7T => k_asm); (case q7c1 => exact rfl); (case q7c2 => exact rfl); (case q7c3 => exact rfl); (case q7c4 => exact rfl); (case q7r => k_room)); intro h' tk' F' N'; (try k_sweep))))
  (k_with "nm_m10_3" => (intro rG qG bvsG vG bsG nG n2G h' tk' F' N' hrG hqG hqrG hoG hsG hvG))
  (k_with "nm_m10_4" => ((have hrG9 := hrG; have hqG9 := hqG; simp only [AllNe, and_true] at hrG hqG)))
  (k_with "call ref" => ((k_here; (with_reducible show wpAny _ _ (call (Value.ref 88) [Value.ref _, Value.bytes _ _]) _ _ _); k_dflt (refine' call_get ?q15B ?q15F ?q15X ?q15T ?q15N ?q15c1 ?q15c2 ?q15c3 ?q15c4 ?q15m1 ?q15m2 ?q15m3 ?q15ne ?q15r ?q15s1 ?q15s2 ?q15ky ?q15hp ?q15hp2 ?q15db ?q15hin ?_; (case q15F => k_asm); (case q15N => k_asm); (case q15B => k_asm); (case q15X => k_asm); (case q15T => k_asm); (case q15c1 => exact rfl); (case q15c2 => exact rfl); (case q15c3 => exact rfl); (case q15c4 => exact rfl); (case q15m1 => k_mem); (case q15m2 => k_mem); (case q15m3 => k_mem); (case q15ne => (refine ⟨?_, ?_, ?_⟩ <;> k_ne)); (case q15r => k_room); (case q15s1 => omega); (case q15s2 => omega); (case q15ky => assumption); (case q15hp => assumption); (case q15hp2 => assumption); (case q15db => assumption); (case q15hin => assumption)); k_extra "nm_m10_3"; k_extra "nm_m10_4"; (try k_sweep))))
  (k_with "nm_m10_5" => ((intro DR h' tk' F' N' l1; (try k_lt l1))))
  (k_with "call type:reversed" => ((k_here; (with_reducible show wpAny _ _ (call (Value.type _) [Value.ref _]) _ _ _); k_dflt (refine' reversed_tup ?q16F ?q16N ?q16m ?q16z ?_; (case q16F => k_asm); (case q16N => k_asm); (case q16m => k_mem); (case q16z => assumption)); k_extra "nm_m10_5"; (try k_sweep))))
  (k_with "nm_m10_6" => (intro h' oS F' N' hdS))
  (k_with "nm_m10_7" => ((try dsimp only at N')))
  (k_with "setItem ref bytes" => ((k_here; (with_reducible show wpAny _ _ (setItem (Value.ref _) (Value.bytes _ _) (Value.bytes _ _)) _ _ _); k_dflt (refine' kb_set ?q17F ?q17N ?q17U ?q17d (bk_is _ _) ?q17z ?_; (case q17F => k_asm); (case q17N => k_asm); (case q17U => k_updF); (case q17d => assumption); (case q17z => (simp only [sizeLine_eq]; omega)); (k_extra "nm_m10_6"); k_extra "nm_m10_7"))))
  (k_with "nm_m10_8" => (intro dA tA kA hdA))
  (k_with "binaryOp Add bytes bytes" => ((k_here; (with_reducible show wpAny _ _ (binaryOp Operator.Add (Value.bytes _ _) (Value.bytes _ _)) _ _ _); refine add_octs (by assumption) (by assumption) ?_; k_extra "nm_m10_8")))
  (k_with "nm_m10_9" => (intro tA kA))
  (k_with "inplaceOp LShift int int" => ((k_here; refine shl_pow (by assumption) (by omega) ?_; k_extra "nm_m10_9")))
  (k_with "allne" => ((simp only [AllNe, and_true]; (repeat' apply And.intro) <;> k_extra "z ne1")))
  (k_with "nm_m10_10" => ((intro DT h' tk' F' N' l1; (try k_lt l1))))
  (k_with "call type:tuple" => ((k_here; (with_reducible show wpAny _ _ (call (Value.type _) [Value.ref _]) _ _ _); k_dflt (refine' tuple_rev ?q18hh ?q18F ?q18N ?q18m ?q18c ?q18d ?q18ne ?q18z ?_; (case q18hh => exact rfl); (case q18F => k_asm); (case q18N => k_asm); (case q18m => k_mem); (case q18c => exact rfl); (case q18d => exact rfl); (case q18ne => k_extra "allne"); (case q18z => assumption)); k_extra "nm_m10_10"; (try k_sweep))))
  trivial
def BadK (P : Prop) : Prop := P
section
variable {prog : Program} {w : World} {A : Around} {s : Shared} {g : Heap} {R : Result → Shared → Prop} {fa ta x dx da : Addr} {odb : Obj} {T : List Oct} {D : List (Oct × Oct)} {key dflt root : Array UInt8} {kt t1 t2 t3 t4 t5 t6 u1 u2 u3 u6 : Tok} {size : Nat} {f : Nat → Oct} {p : Nat}
set_option maxHeartbeats 4000000 in
theorem branch_pub (S : SiteX w A g s.heap) (hL : Led g s.heap (treeLed w t1 t2 t3 t4 t5 t6 size u1 u2 dflt u3 fa da root u6 x dx odb))
    (hne : @Ne Nat x dx ∧ @Ne Nat x da ∧ @Ne Nat dx da) (hroom : A.depth + 8 < recursionLimit) (hs1 : 1 ≤ size) (hs2 : size ≤ 2) (hkey : key.size = size) (hp : value (oInts key.toList) = (p : Int)) (hp2 : p < 2 ^ (8 * size)) (hdb : IsKB (bytesKind prog w) odb D)
    (hin : In T D (8 * size) f root.toList)
    (ret : ∀ q bvs bs n h' tk', (∀ a o, g.get? a = some o → h'.get? a = some o) → (∀ a ∈ treeLed w t1 t2 t3 t4 t5 t6 size u1 u2 dflt u3 fa da root u6 x dx odb, h'.get? a.1 = some a.2) →
      h'.get? q = some { cls := .type "tuple", data := .seq (List.toArray bvs) n } → Fresh g (treeLed w t1 t2 t3 t4 t5 t6 size u1 u2 dflt u3 fa da root u6 x dx odb) q → Octs bvs bs → Sibs T f p (8 * size) bs → f p ≠ [] → R (.ok (.ret (.ref q))) { s with heap := h', toks := tk' })
    (rais : ∀ base fr e h' tk', f p = [] → Below A base fr g → RaisedSN base g fr e (.type "KeyError") (treeLed w t1 t2 t3 t4 t5 t6 size u1 u2 dflt u3 fa da root u6 x dx odb) h' → g.UpToSlots h' → R (.error (.ref e)) { s with heap := h', toks := tk' }) :
    codeAny (model prog w) A (.call (.ref 81) ⟨[.ref x, .bytes key kt], []⟩) R s := by
  refine enterKX (binds := [("self", .ref x), ("key", .bytes key kt)]) S hL (by k_is) (by k_is) (by omega) (BindsTo.of_eq rfl) (locs rfl) ?_ (by decide) rfl rfl rfl
  intro base fr dp un gd pp loose mean mg mb pp' loose' mean' mg' mb' L h₁ eA B X TT XB TB DD F N l1
  subst eA
  simp only [Ar] at hroom
  subst hkey
  have hkr : key.size = key.size := rfl
  k_steps
  · with_reducible rename RaisedSN _ _ _ _ _ _ _ => S9
    exact rais base fr _ _ _ (oct_nil (by assumption) hvG) B (raised_sub S9 fun q hq => .tail _ (.tail _ hq)) (by assumption)
  · with_reducible rename Fr _ _ _ _ => F9
    with_reducible rename News _ _ _ _ => N9
    exact ret qG bvsG bsG _ _ _ F9.keep (fun q hq => (N9 q (.tail _ (.tail _ hq))).1) (N9 _ (.tail _ (.head _))).1 ⟨(N9 _ (.tail _ (.head _))).2.2, by k_extra "allne"⟩ hoG hsG (oct_cons (by assumption) hvG)
end
section
variable {prog : Program} {w : World} {A : Around} {s : Shared} {g : Heap} {E : Value → Shared → Prop} {L : Addr} {m : Str → Option Value} {base : Heap} {fr : List Env} {env : Env} {news : List (Addr × Obj)}
  {p p' : Program} {loose loose' : List Str} {mean mean' : ExcName → Option Value} {mg mb mg' mb' : Str → Option Value} {A₀ : Around} {Q : Value → Shared → Prop}
theorem call_getp {fa x dx da : Addr} {odb : Obj} {T : List Oct} {D : List (Oct × Oct)} {key dflt root : Array UInt8} {kt t1 t2 t3 t4 t5 t6 u1 u2 u3 u6 : Tok} {size : Nat} {f : Nat → Oct} {pp : Nat} (B : Below A₀ base fr g) (F : Fr g L s.heap m) (X : (hd0.heap_1 w.params).In g) (TT : Top p loose mean mg mb g) (XB : (hd0.heap_1 w.params).In base) (TB : Top p' loose' mean' mg' mb' base) (DD : KtsDicts (fr.filterMap (·.frame)) g) (N : News g L s.heap news) (hA : A.frames = some (env :: fr)) (hf : env.frame = some L) (hke : env.scope.kind = .function) (hh : A.handled = none)
    (m1 : (x, instObj 140 dx) ∈ news) (m2 : (dx, dictOf (treeEs w t1 t2 t3 t4 t5 t6 (.int size u1) (.int (8 * size : Int) u2) (.bytes dflt u3) (.ref fa) (.ref da) (.bytes root u6)) 6) ∈ news) (m3 : (da, odb) ∈ news)
    (hne : @Ne Nat x dx ∧ @Ne Nat x da ∧ @Ne Nat dx da) (hroom : A.depth + 8 < recursionLimit) (hs1 : 1 ≤ size) (hs2 : size ≤ 2) (hkey : key.size = size) (hp : value (oInts key.toList) = (pp : Int)) (hp2 : pp < 2 ^ (8 * size)) (hdb : IsKB (bytesKind prog w) odb D)
    (hin : In T D (8 * size) f root.toList)
    (bad : BadK (∀ e g₂ h' tk', f pp = [] → RaisedSN base g₂ (env :: fr) e (.type "KeyError") news h' → g₂.UpToSlots h' → Fr g L g₂ m → E (.ref e) { s with heap := h', toks := tk' }))
    (h : ∀ v n h' tk', Fr g L h' m → News g L h' news → v.toList = f pp → f pp ≠ [] → Q (.bytes v n) { s with heap := h', toks := tk' }) :
    wpAny (model prog w) A (call (.ref 74) [.ref x, .bytes key kt]) Q E s := by
  have hl : ∀ q ∈ treeLed w t1 t2 t3 t4 t5 t6 size u1 u2 dflt u3 fa da root u6 x dx odb, q ∈ news := led3 m1 m2 m3
  obtain ⟨S, hL⟩ := site_ofX B F X TT XB TB DD (led := _) (fun q hq => N q (hl q hq)) hA hf hke hh
  refine wpAny_call (get_pub S hL hne hroom hs1 hs2 hkey hp hp2 hdb hin (fun b n h' tk' k kl e1 e2 => ?_) (fun b0 f0 e h' tk' e1 B0 R U => ?_))
  · have all := all_back k kl fun a ha => (N a (hl a ha)).1
    exact h b n h' tk' (F.keptAll all) (N.grown all) e1 e2
  · have ef : f0 = env :: fr := Option.some.inj (B0.stack.symm.trans hA)
    subst ef
    obtain ⟨R', U', F'⟩ := raise_back B F N hl hf hke R U
    exact bad e _ h' tk' e1 R' U' F'
end
theorem lines_s12c_2 : True := by
  (k_with "nm_m12_11" => (intro vP nP h' tkQ F' N' hvP hpP))
  (k_with "nm_m12_12" => (intro eP gP hP tkP hpP RP UP FP))
  (k_with "call ref" => ((k_here; (with_reducible show wpAny _ _ (call (Value.ref 74) [Value.ref _, Value.bytes _ _]) _ _ _); k_dflt (refine' call_getp ?q19B ?q19F ?q19X ?q19T ?q19XB ?q19TB ?q19D ?q19N ?q19c1 ?q19c2 ?q19c3 ?q19c4 ?q19m1 ?q19m2 ?q19m3 ?q19ne ?q19r ?q19s1 ?q19s2 ?q19ky ?q19hp ?q19hp2 ?q19db ?q19hin ?_ ?_; (case q19F => k_asm); (case q19N => k_asm); (case q19B => k_asm); (case q19X => k_asm); (case q19T => k_asm); (case q19D => k_asm); (case q19XB => assumption); (case q19TB => assumption); (case q19c1 => exact rfl); (case q19c2 => exact rfl); (case q19c3 => exact rfl); (case q19c4 => exact rfl); (case q19m1 => k_mem); (case q19m2 => k_mem); (case q19m3 => k_mem); (case q19ne => (refine ⟨?_, ?_, ?_⟩ <;> k_ne)); (case q19r => k_room); (case q19s1 => omega); (case q19s2 => omega); (case q19ky => assumption); (case q19hp => assumption); (case q19hp2 => assumption); (case q19db => assumption); (case q19hin => assumption)); (all_goals (first | ((with_reducible show BadK _); unfold BadK; k_extra "nm_m12_12"; (try dsimp only)) | (k_extra "nm_m12_11"; (try k_sweep)))))))
  trivial
section
variable {prog : Program} {w : World} {A : Around} {s : Shared} {g : Heap} {R : Result → Shared → Prop} {fa ta x dx da : Addr} {odb : Obj} {T : List Oct} {D : List (Oct × Oct)} {key dflt root : Array UInt8} {kt t1 t2 t3 t4 t5 t6 u1 u2 u3 u6 : Tok} {size : Nat} {f : Nat → Oct} {p : Nat}
set_option maxHeartbeats 4000000 in
theorem exists_ (S : SiteX w A g s.heap) (hL : Led g s.heap (treeLed w t1 t2 t3 t4 t5 t6 size u1 u2 dflt u3 fa da root u6 x dx odb))
    (hne : @Ne Nat x dx ∧ @Ne Nat x da ∧ @Ne Nat dx da) (hroom : A.depth + 11 < recursionLimit) (hs1 : 1 ≤ size) (hs2 : size ≤ 2) (hkey : key.size = size) (hp : value (oInts key.toList) = (p : Int)) (hp2 : p < 2 ^ (8 * size)) (hdb : IsKB (bytesKind prog w) odb D)
    (hin : In T D (8 * size) f root.toList)
    (ret : ∀ g' h' tk' base fr, Below A base fr g → KtsTurn (fr.filterMap (·.frame)) g g' → (∀ a o, g'.get? a = some o → h'.get? a = some o) → (∀ a ∈ treeLed w t1 t2 t3 t4 t5 t6 size u1 u2 dflt u3 fa da root u6 x dx odb, h'.get? a.1 = some a.2) → R (.ok (.ret (.bool (decide (f p ≠ []))))) { s with heap := h', toks := tk' }) :
    codeAny (model prog w) A (.call (.ref 102) ⟨[.ref x, .bytes key kt], []⟩) R s := by
  refine enterKX (binds := [("self", .ref x), ("key", .bytes key kt)]) S hL (by k_is) (by k_is) (by omega) (BindsTo.of_eq rfl) (locs rfl) ?_ (by decide) rfl rfl rfl
  intro base fr dp un gd pp loose mean mg mb pp' loose' mean' mg' mb' L h₁ eA B X TT XB TB DD F N l1
  subst eA
  simp only [Ar] at hroom
  subst hkey
  have hkr : key.size = key.size := rfl
  k_steps
  · with_reducible rename Fr _ _ _ _ => F9
    with_reducible rename News _ _ _ _ => N9
    with_reducible rename KtsTurn _ _ _ => T9
    have e9 : decide (f p ≠ []) = false := by simp [hpP]
    have z := fun tk9 => ret _ _ tk9 base fr B T9 F9.keep (fun q hq => (N9 q hq).1)
    simp only [e9] at z
    exact z _
  · with_reducible rename Fr _ _ _ _ => F9
    with_reducible rename News _ _ _ _ => N9
    have e9 : decide (f p ≠ []) = true := by simp [hpP]
    have z := fun tk9 => ret _ _ tk9 base fr B KtsTurn.refl F9.keep (fun q hq => (N9 q hq).1)
    simp only [e9] at z
    exact z _
end
end -- S12c
section -- S13
theorem lines_s13_1 : True := by
  w_top off
  k_with_none
  (k_with "exec For Name Call cons nil" => (refine stop ?_))
  (k_with "exec For Name Call" => (refine stop ?_))
  (k_with "pyIter ref" => (refine stop ?_))
  (k_with "k_room" => (((try simp only [depth_under_make, depth_under_kw, depth_in1, depth_deeper, depth_caller]); omega)))
  (k_with "compareOp NotEq int int" => (refine ne_same ?_))
  (k_with "call ref" => ((k_here; (with_reducible show wpAny _ _ (call (Value.ref _) [Value.bytes _ _, Value.str _ _]) _ _ _); k_dflt (refine' from_big ?q6N ?q6m ?q6l ?q6p ?_; (case q6N => k_asm); (case q6m => k_mem); (case q6l => omega); (case q6p => assumption)); intro t' k')))
  (k_with "z cj" => (first | with_reducible assumption | exact And.left (by with_reducible assumption) | exact And.left (And.right (by with_reducible assumption)) | exact And.left (And.right (And.right (by with_reducible assumption))) | exact And.left (And.right (And.right (And.right (by with_reducible assumption)))) | exact And.left (And.right (And.right (And.right (And.right (by with_reducible assumption))))) | exact And.left (And.right (And.right (And.right (And.right (And.right (by with_reducible assumption)))))) | exact And.left (And.right (And.right (And.right (And.right (And.right (And.right (by with_reducible assumption))))))) | exact And.left (And.right (And.right (And.right (And.right (And.right (And.right (And.right (by with_reducible assumption)))))))) | exact And.right (by with_reducible assumption) | exact And.right (And.right (by with_reducible assumption)) | exact And.right (And.right (And.right (by with_reducible assumption))) | exact And.right (And.right (And.right (And.right (by with_reducible assumption)))) | exact And.right (And.right (And.right (And.right (And.right (by with_reducible assumption))))) | exact And.right (And.right (And.right (And.right (And.right (And.right (by with_reducible assumption)))))) | exact And.right (And.right (And.right (And.right (And.right (And.right (And.right (by with_reducible assumption)))))))))
  (k_with "z ne1" => (first | k_extra "z cj" | (refine Ne.symm ?_; k_extra "z cj") | exact AllNe.at1 (by with_reducible assumption) (by k_mem) | exact AllNe.at2 (by with_reducible assumption) (by k_mem) | omega))
  (k_with "k_ne" => ((refine PySem.W.neN ?_; (try dsimp only); k_extra "z ne1")))
  (k_with "execs cons" => (((with_reducible show wpAny _ _ (execs (Stmt.Assign _ _ _ :: _) _) _ _ _); refine execsGen fun P8 hP8 => ?_)))
  (k_with "execs cons" => (((with_reducible show wpAny _ _ (execs (Stmt.Expr _ _ :: _) _) _ _ _); refine execsGen fun P8 hP8 => ?_)))
  (k_with "execs cons" => (((with_reducible show wpAny _ _ (execs (Stmt.AugAssign _ _ _ _ :: _) _) _ _ _); refine execsGen fun P8 hP8 => ?_)))
  (k_with "FinQ" => ((refine finOut (by with_reducible assumption) ?_; (try dsimp only))))
  (k_with "call ref" => ((k_here; (with_reducible show wpAny _ _ (call (Value.ref 34) [Value.bytes _ _]) _ _ _); k_dflt (refine' call_valid_bytes ?q7B ?q7F ?q7X ?q7T ?q7N ?q7c1 ?q7c2 ?q7c3 ?q7c4 ?q7r ?_; (case q7F => k_asm); (case q7N => k_asm); (case q7B => k_asm); (case q7X => k_asm); (case q7T => k_asm); (case q7c1 => exact rfl); (case q7c2 => exact rfl); (case q7c3 => exact rfl); (case q7c4 => exact rfl); (case q7r => k_room)); intro h' tk' F' N'; (try k_sweep))))
  (k_with "call ref" => ((k_here; (with_reducible show wpAny _ _ (call (Value.ref 41) [Value.bytes _ _, Value.int _ _]) _ _ _); k_dflt (refine' call_valid_length ?q8B ?q8F ?q8X ?q8T ?q8N ?q8c1 ?q8c2 ?q8c3 ?q8c4 ?q8r ?q8z ?q8n ?_; (case q8F => k_asm); (case q8N => k_asm); (case q8B => k_asm); (case q8X => k_asm); (case q8T => k_asm); (case q8c1 => exact rfl); (case q8c2 => exact rfl); (case q8c3 => exact rfl); (case q8c4 => exact rfl); (case q8r => k_room); (case q8z => omega); (case q8n => omega)); intro h' tk' F' N'; (try k_sweep))))
  (k_with "getMethod type:int" => ((k_here; k_dflt (refine' KFB.getm ?q9kfbF ?q9kfbN ?q9kfbX (find_fb _) ?_; (case q9kfbF => k_asm); (case q9kfbN => k_asm); (case q9kfbX => k_asm); k_whole; intro x' h' F' N' l1; (try k_lt l1); (try k_sweep)))))
  (k_with "eval Name" => ((k_here; k_dflt (refine' nameX_L ?q10F ?q10v ?_ ?q10a ?q10b; (case q10a => rfl); (case q10b => rfl); (case q10F => k_asm); (case q10v => assumption); k_whole))))
  (k_with "subscriptTail" => ((k_here; (with_reducible show wpAny _ _ (subscriptTail _ _ (Value.ref _) (Value.bytes _ _)) _ _ _); k_dflt (refine' kb_item ?q11N ?q11p ?q11d (bk_is _ _) ?q11l ?_; (case q11N => k_asm); (case q11p => k_mem); (case q11d => assumption); (case q11l => assumption); (intro b' t' hb')))))
  (k_with "subscriptTail" => ((k_here; (with_reducible show wpAny _ _ (subscriptTail _ (Expr.Slice none _ none _) (Value.bytes _ _) (Value.ref _)) _ _ _); (with_reducible rename Fr _ _ _ _ => F'); (with_reducible rename News _ _ _ _ => N'); (refine cut_lo (s := ⟨_, _, _, _, _⟩) F' N' (by assumption) (by assumption) (by assumption) ?_); intro _ _ _ _ _ _ _)))
  (k_with "subscriptTail" => ((k_here; (with_reducible show wpAny _ _ (subscriptTail _ (Expr.Slice _ none none _) (Value.bytes _ _) (Value.ref _)) _ _ _); (with_reducible rename Fr _ _ _ _ => F'); (with_reducible rename News _ _ _ _ => N'); (refine cut_hi (s := ⟨_, _, _, _, _⟩) F' N' (by assumption) (by assumption) (by assumption) ?_); intro _ _ _ _ _ _ _)))
  (k_with "binaryOp BitAnd int int" => ((k_here; refine and_bit (by assumption) (fun hbit hpos => ?_) (fun hbit => ?_))))
  (k_with "loadName" => ((k_here; k_dflt (refine' ldn ?q12F ?q12v ?_ ?q12a ?q12b; (case q12a => rfl); (case q12b => rfl); (case q12F => k_asm); (case q12v => assumption); k_whole))))
  (k_with "truthy int" => ((refine truthy_pos (by assumption) ?_)))
  (k_with "hash1" => (exact HashFn.at1 (by assumption) (by k_asm) (by k_asm) (by k_mem)))
  (k_with "callWith ref" => ((k_here; k_dflt (refine' callWith_F ?q13k1 ?_; (case q13k1 => exact HashFn.fnAt (by assumption) (by k_asm)); k_whole))))
  (k_with "FnAt" => (exact HashFn.fnAt (by assumption) (by k_asm)))
  (k_with "And" => (((with_reducible show FnAt _ _ ∧ _); refine ⟨HashFn.fnAt (by assumption) (by k_asm), ?_⟩; try dsimp only [List.nil_append, List.cons_append])))
  (k_with "nm_m10_1" => (intro bH tH h' tk' oH TH F' N' hxH hbH hlH hotH))
  (k_with "nm_m10_2" => ((try dsimp only at N')))
  (k_with "call ref" => ((k_here; (with_reducible show wpAny _ _ (call (Value.ref _) [Value.bytes _ _]) _ _ _); k_dflt (refine' call_hash ?q14B ?q14F ?q14X ?q14T ?q14N ?q14c1 ?q14c2 ?q14c3 ?q14c4 ?q14H ?q14ot ?q14U ?q14z ?q14r ?q14lo ?_; (case q14F => k_asm); (case q14N => k_asm); (case q14B => k_asm); (case q14X => k_asm); (case q14T => k_asm); (case q14c1 => exact rfl); (case q14c2 => exact rfl); (case q14c3 => exact rfl); (case q14c4 => exact rfl); (case q14H => k_extra "hash1"); (case q14ot => assumption); (case q14U => k_updF); (case q14z => omega); (case q14r => k_room); (case q14lo => assumption)); k_extra "nm_m10_1"; k_extra "nm_m10_2"; (try k_sweep))))
  (k_with "call ref" => ((k_here; (with_reducible show wpAny _ _ (call (Value.ref 34) [Value.bytes _ _]) _ _ _); k_dflt (refine' call_valid_bytes ?q7B ?q7F ?q7X ?q7T ?q7N ?q7c1 ?q7c2 ?q7c3 ?q7c4 ?q7r ?_; (case q7F => k_asm); (case q7N => k_asm); (case q7B => k_asm); (case q7X => k_asm); (case q7T => k_asm); (case q7c1 => exact rfl); (case q7c2 => exact rfl); (case q7c3 => exact rfl); (case q7c4 => exact rfl); (case q7r => k_room)); intro h' tk' F' N'; (try k_sweep))))
  (k_with "nm_m10_3" => (intro rG qG bvsG vG bsG nG n2G h' tk' F' N' hrG hqG hqrG hoG hsG hvG))
  (k_with "nm_m10_4" => ((have hrG9 := hrG; have hqG9 := hqG; simp only [AllNe, and_true] at hrG hqG)))
  (k_with "call ref" => ((k_here; (with_reducible show wpAny _ _ (call (Value.ref 88) [Value.ref _, Value.bytes _ _]) _ _ _); k_dflt (refine' call_get ?q15B ?q15F ?q15X ?q15T ?q15N ?q15c1 ?q15c2 ?q15c3 ?q15c4 ?q15m1 ?q15m2 ?q15m3 ?q15ne ?q15r ?q15s1 ?q15s2 ?q15ky ?q15hp ?q15hp2 ?q15db ?q15hin ?_; (case q15F => k_asm); (case q15N => k_asm); (case q15B => k_asm); (case q15X => k_asm); (case q15T => k_asm); (case q15c1 => exact rfl); (case q15c2 => exact rfl); (case q15c3 => exact rfl); (case q15c4 => exact rfl); (case q15m1 => k_mem); (case q15m2 => k_mem); (case q15m3 => k_mem); (case q15ne => (refine ⟨?_, ?_, ?_⟩ <;> k_ne)); (case q15r => k_room); (case q15s1 => omega); (case q15s2 => omega); (case q15ky => assumption); (case q15hp => assumption); (case q15hp2 => assumption); (case q15db => assumption); (case q15hin => assumption)); k_extra "nm_m10_3"; k_extra "nm_m10_4"; (try k_sweep))))
  (k_with "nm_m10_5" => ((intro DR h' tk' F' N' l1; (try k_lt l1))))
  (k_with "call type:reversed" => ((k_here; (with_reducible show wpAny _ _ (call (Value.type _) [Value.ref _]) _ _ _); k_dflt (refine' reversed_tup ?q16F ?q16N ?q16m ?q16z ?_; (case q16F => k_asm); (case q16N => k_asm); (case q16m => k_mem); (case q16z => assumption)); k_extra "nm_m10_5"; (try k_sweep))))
  (k_with "nm_m10_6" => (intro h' oS F' N' hdS))
  (k_with "nm_m10_7" => ((try dsimp only at N')))
  (k_with "setItem ref bytes" => ((k_here; (with_reducible show wpAny _ _ (setItem (Value.ref _) (Value.bytes _ _) (Value.bytes _ _)) _ _ _); k_dflt (refine' kb_set ?q17F ?q17N ?q17U ?q17d (bk_is _ _) ?q17z ?_; (case q17F => k_asm); (case q17N => k_asm); (case q17U => k_updF); (case q17d => assumption); (case q17z => (simp only [sizeLine_eq]; omega)); (k_extra "nm_m10_6"); k_extra "nm_m10_7"))))
  (k_with "nm_m10_8" => (intro dA tA kA hdA))
  (k_with "binaryOp Add bytes bytes" => ((k_here; (with_reducible show wpAny _ _ (binaryOp Operator.Add (Value.bytes _ _) (Value.bytes _ _)) _ _ _); refine add_octs (by assumption) (by assumption) ?_; k_extra "nm_m10_8")))
  (k_with "nm_m10_9" => (intro tA kA))
  (k_with "inplaceOp LShift int int" => ((k_here; refine shl_pow (by assumption) (by omega) ?_; k_extra "nm_m10_9")))
  (k_with "allne" => ((simp only [AllNe, and_true]; (repeat' apply And.intro) <;> k_extra "z ne1")))
  (k_with "nm_m10_10" => ((intro DT h' tk' F' N' l1; (try k_lt l1))))
  (k_with "call type:tuple" => ((k_here; (with_reducible show wpAny _ _ (call (Value.type _) [Value.ref _]) _ _ _); k_dflt (refine' tuple_rev ?q18hh ?q18F ?q18N ?q18m ?q18c ?q18d ?q18ne ?q18z ?_; (case q18hh => exact rfl); (case q18F => k_asm); (case q18N => k_asm); (case q18m => k_mem); (case q18c => exact rfl); (case q18d => exact rfl); (case q18ne => k_extra "allne"); (case q18z => assumption)); k_extra "nm_m10_10"; (try k_sweep))))
  (k_with "nm_m12_11" => (intro vP nP h' tkQ F' N' hvP hpP))
  (k_with "nm_m12_12" => (intro eP gP hP tkP hpP RP UP FP))
  (k_with "call ref" => ((k_here; (with_reducible show wpAny _ _ (call (Value.ref 74) [Value.ref _, Value.bytes _ _]) _ _ _); k_dflt (refine' call_getp ?q19B ?q19F ?q19X ?q19T ?q19XB ?q19TB ?q19D ?q19N ?q19c1 ?q19c2 ?q19c3 ?q19c4 ?q19m1 ?q19m2 ?q19m3 ?q19ne ?q19r ?q19s1 ?q19s2 ?q19ky ?q19hp ?q19hp2 ?q19db ?q19hin ?_ ?_; (case q19F => k_asm); (case q19N => k_asm); (case q19B => k_asm); (case q19X => k_asm); (case q19T => k_asm); (case q19D => k_asm); (case q19XB => assumption); (case q19TB => assumption); (case q19c1 => exact rfl); (case q19c2 => exact rfl); (case q19c3 => exact rfl); (case q19c4 => exact rfl); (case q19m1 => k_mem); (case q19m2 => k_mem); (case q19m3 => k_mem); (case q19ne => (refine ⟨?_, ?_, ?_⟩ <;> k_ne)); (case q19r => k_room); (case q19s1 => omega); (case q19s2 => omega); (case q19ky => assumption); (case q19hp => assumption); (case q19hp2 => assumption); (case q19db => assumption); (case q19hin => assumption)); (all_goals (first | ((with_reducible show BadK _); unfold BadK; k_extra "nm_m12_12"; (try dsimp only)) | (k_extra "nm_m12_11"; (try k_sweep)))))))
  trivial
theorem lookup_inj {K : Frag} {f : Addr} {o9 o : Obj} {P : Prop} (h9 : K.lookup f = some o9) (h : K.lookup f = some o) (k : o9 = o → P) : P := k (Option.some.inj (h9.symm.trans h))
theorem news_upd2 {g h h' : Heap} {L : Addr} {news : List (Addr × Obj)} {as : List Addr} {a : Addr} {o o' : Obj} {gn : Obj → List (Addr × Obj)} (N : News g L h news) (U : UpdF a o news gn) (hk : ∀ b o, (hideAll h as).get? b = some o → h'.get? b = some o) (hoff : ∀ p ∈ news, p.1 ≠ a → p.1 ∉ as) (ho : h'.get? a = some o') : News g L h' (gn o') := by
  obtain ⟨pre, post, rfl, hg, ha, hb⟩ := U.split
  rw [hg]
  have keep : ∀ p ∈ pre ++ (a, o) :: post, p.1 ≠ a → h'.get? p.1 = some p.2 ∧ p.1 ≠ L ∧ g.get? p.1 = none := fun p hp hne =>
    ⟨hk _ _ (hideAll_get _ (N p hp).1 (hoff p hp hne)), (N p hp).2⟩
  intro p hp
  rcases List.mem_append.mp hp with hp | hp
  · exact keep p (List.mem_append_left _ hp) (ha p hp)
  · rcases List.mem_cons.mp hp with rfl | hp
    · exact ⟨ho, (N (a, o) (List.mem_append_right _ (.head _))).2⟩
    · exact keep p (List.mem_append_right _ (.tail _ hp)) (hb p hp)
theorem UpdF.mem {a : Addr} {o : Obj} {news : List (Addr × Obj)} {gn : Obj → List (Addr × Obj)} (U : UpdF a o news gn) : (a, o) ∈ news := by obtain ⟨pre, post, rfl, _⟩ := U.split; exact List.mem_append_right _ (.head _)
theorem UpdF.addrs {a b : Addr} {o : Obj} {news : List (Addr × Obj)} {gn : Obj → List (Addr × Obj)} (U : UpdF a o news gn) (h : AllNe b news) (o' : Obj) : AllNe b (gn o') := by
  obtain ⟨pre, post, rfl, hg, _⟩ := U.split
  rw [hg]
  refine allNe_of fun p hp => ?_
  rcases List.mem_append.mp hp with hp | hp
  · exact h.all p (List.mem_append_left _ hp)
  · rcases List.mem_cons.mp hp with rfl | hp
    · exact h.all (a, o) (List.mem_append_right _ (.head _))
    · exact h.all p (List.mem_append_right _ (.tail _ hp))
theorem HashFn.atNew {g : Heap} {L fa ta : Addr} {ot : Obj} {m : Str → Option Value} {news : List (Addr × Obj)} (H : HashFn g fa ta) (hm : (ta, ot) ∈ news) (h1 : Heap) (x dx : Addr) (F : Fr g L h1 m) (N : News g L h1 ((x, instObj 140 dx) :: (dx, dictOf [] 0) :: news)) : HashFn (hideAll h1 [x, dx, ta]) fa ta :=
  H.site F N (led := [(x, instObj 140 dx), (dx, dictOf [] 0), (ta, ot)]) (led3 (.head _) (.tail _ (.head _)) (.tail _ (.tail _ hm)))
section
variable {prog : Program} {w : World} {A : Around} {s : Shared} {g : Heap} {E : Value → Shared → Prop} {L : Addr} {m : Str → Option Value} {base : Heap} {fr : List Env} {env : Env} {news : List (Addr × Obj)}
  {p : Program} {loose : List Str} {mean : ExcName → Option Value} {mg mb : Str → Option Value} {A₀ : Around} {Q : Value → Shared → Prop}
theorem call_new {pos : List Value} {kw : List (Str × Value)} {fa ta : Addr} {ot : Obj} {T : List Oct} {dflt : Array UInt8} {u1 u3 : Tok} {size : Nat} {gn : Obj → List (Addr × Obj)} (B : Below A₀ base fr g) (F : Fr g L s.heap m) (X : (hd0.heap_1 w.params).In g) (TT : Top p loose mean mg mb g) (N : News g L s.heap news) (hA : A.frames = some (env :: fr)) (hf : env.frame = some L) (hke : env.scope.kind = .function) (hh : A.handled = none)
    (hb : ∀ x s' fd o, (hd0.heap_1 w.params).In s'.heap → (hd0.heap_1 w.params).lookup 56 = some o → o.data = .func fd → BindsTo s' fd ⟨.ref x :: pos, kw⟩ [("self", .ref x), ("hash_of", .ref fa), ("key_size", .int (size : Int) u1), ("default", .bytes dflt u3)])
    (H : ∀ h1 x dx, Fr g L h1 m → News g L h1 ((x, instObj 140 dx) :: (dx, dictOf [] 0) :: news) → AllNe x news → AllNe dx news → HashFn (hideAll h1 [x, dx, ta]) fa ta) (hot : IsTbl prog w ot T) (U : UpdF ta ot news gn) (hsz : T.length ≤ 100000) (hroom : A.depth + 5 < recursionLimit) (lo : (ta == sysModules) = false) (hs1 : 1 ≤ size) (hs2 : size ≤ 32)
    (h : ∀ x dx da root t1 t2 t3 t4 t5 t6 u2 u6 ot' odb' T' D' h' tk', Fr g L h' m → News g L h' ((x, instObj 140 dx) :: (dx, dictOf (treeEs w t1 t2 t3 t4 t5 t6 (.int size u1) (.int (8 * size : Int) u2) (.bytes dflt u3) (.ref fa) (.ref da) (.bytes root u6)) 6) :: (da, odb') :: gn ot') →
      AllNe x (gn ot') → AllNe dx (gn ot') → AllNe da (gn ot') → @Ne Nat x dx ∧ @Ne Nat x da ∧ @Ne Nat dx da →
      Ext (8 * size + 1) T T' → IsTbl prog w ot' T' → IsKB (bytesKind prog w) odb' D' → DbOk T' D' → D'.length ≤ 8 * size + 1 → In T' D' (8 * size) (cst dflt.toList) root.toList → Q (.ref x) { s with heap := h', toks := tk' }) :
    wpAny (model prog w) A (call (.ref 140) pos kw) Q E s := by
  refine call_cls F X N (by k_is) (by k_is) (by k_is) fun x dx h1 F1 N1 l1 l2 => ?_
  have hta : (ta, ot) ∈ news := UpdF.mem U
  have hl : ∀ q ∈ [(x, instObj 140 dx), (dx, dictOf [] 0), (ta, ot)], q ∈ (x, instObj 140 dx) :: (dx, dictOf [] 0) :: news := led3 (.head _) (.tail _ (.head _)) (.tail _ (.tail _ hta))
  have ndx : AllNe dx news := allNe_of fun q hq => Nat.ne_of_lt (l1 q hq)
  have nx : AllNe x news := allNe_of fun q hq => Nat.ne_of_lt (Nat.lt_trans (l1 q hq) l2)
  have n3 : @Ne Nat x dx ∧ @Ne Nat x ta ∧ @Ne Nat dx ta := ⟨Nat.ne_of_gt l2, fun e => nx.all _ hta e.symm, fun e => ndx.all _ hta e.symm⟩
  obtain ⟨S, hL⟩ := site_of (A' := A.under (.builtin "type.__call__" ⟨.ref 140 :: pos, kw⟩)) B F1 X TT (led := [(x, instObj 140 dx), (dx, dictOf [] 0), (ta, ot)]) (fun q hq => N1 q (hl q hq)) hA hf hke hh
  refine init_ (s := ⟨h1, _, _, _, _⟩) S hL n3 hroom hs1 hs2 (fun fd o ho hd => hb x _ fd o (X.keeps F1.keep) ho hd) (H h1 x dx F1 N1 nx ndx) hot hsz lo fun da root t1 t2 t3 t4 t5 t6 u2 u6 ot' odb' T' D' h' tk' k kl fd e1 e2 e3 e4 e5 e6 => ?_
  obtain ⟨d1, d2⟩ := fresh_all N1 (led := [(x, instObj 140 dx), (dx, instObj 140 dx), (ta, ot)]) fd
  refine ⟨rfl, ?_⟩
  have hx := kl (x, instObj 140 dx) (.head _)
  have hdx := kl _ (.tail _ (.head _))
  have hda := kl _ (.tail _ (.tail _ (.head _)))
  have hta' := kl _ (.tail _ (.tail _ (.tail _ (.head _))))
  refine h x dx da root t1 t2 t3 t4 t5 t6 u2 u6 ot' odb' T' D' h' tk' (fr_back F1 (led := [(x, instObj 140 dx), (dx, dictOf [] 0), (ta, ot)]) (fun q hq => N1 q (hl q hq)) k) (fun q hq => ?_) (UpdF.addrs U nx _) (UpdF.addrs U ndx _) (UpdF.addrs U d2.2.2 _) ⟨n3.1, d2.1, d2.2.1⟩ e1 e2 e3 e4 e5 e6
  · rcases List.mem_cons.mp hq with rfl | hq
    · exact ⟨hx, (N1 _ (.head _)).2⟩
    · rcases List.mem_cons.mp hq with rfl | hq
      · exact ⟨hdx, (N1 (dx, dictOf [] 0) (.tail _ (.head _))).2⟩
      · rcases List.mem_cons.mp hq with rfl | hq
        · exact new_back F1 hda d1
        · refine news_upd2 (N := fun q hq => N1 q (.tail _ (.tail _ hq))) U k (fun q hq hne hm => ?_) hta' q hq
          simp only [List.map_cons, List.map_nil, List.mem_cons, List.not_mem_nil, or_false] at hm
          rcases hm with e | e | e
          · exact nx.all _ hq e
          · exact ndx.all _ hq e
          · exact hne e
end
theorem lines_s13_2 : True := by
  (k_with "hashN" => (exact fun h1 x dx F1 N1 _ _ => HashFn.atNew (by assumption) (by k_mem) h1 x dx F1 N1))
  (k_with "newbinds" => ((intro x9 s9 fd9 o9 X9 ho9 hd9; (refine' lookup_inj ho9 ?q20h29 ?_; (case q20h29 => k_is); intro h39); subst h39; cases hd9; first | exact BindsTo.of_eq rfl | exact binds_K X9 rfl (by k_is) rfl rfl rfl)))
  (k_with "nm_m13_13" => (intro xN dN aN rootN t1N t2N t3N t4N t5N t6N u2N u6N oN odN TN DN h' tk' F' N' nxN ndN naN neN exN htN hdN okN lenN inN))
  (k_with "nm_m13_14" => ((have nx9 := nxN; have nd9 := ndN; have na9 := naN; simp only [AllNe, and_true] at nxN ndN naN)))
  (k_with "nm_m13_15" => ((try dsimp only at N' nxN ndN naN)))
  (k_with "call ref" => ((k_here; (with_reducible show wpAny _ _ (call (Value.ref 140) _ _) _ _ _); k_dflt (refine' call_new ?q21B ?q21F ?q21X ?q21T ?q21N ?q21c1 ?q21c2 ?q21c3 ?q21c4 ?q21hb ?q21H ?q21ot ?q21U ?q21z ?q21r ?q21lo ?q21s1 ?q21s2 ?_; (case q21F => k_asm); (case q21N => k_asm); (case q21B => k_asm); (case q21X => k_asm); (case q21T => k_asm); (case q21c1 => exact rfl); (case q21c2 => exact rfl); (case q21c3 => exact rfl); (case q21c4 => exact rfl); (case q21hb => k_extra "newbinds"); (case q21H => k_extra "hashN"); (case q21ot => assumption); (case q21U => k_updF); (case q21z => omega); (case q21r => k_room); (case q21lo => assumption); (case q21s1 => omega); (case q21s2 => omega)); k_extra "nm_m13_13"; k_extra "nm_m13_15"; k_extra "nm_m13_14"; (try k_sweep))))
  trivial
section
variable {prog : Program} {w : World} {A : Around} {s : Shared} {g : Heap} {R : Result → Shared → Prop} {fa ta da : Addr} {ot odb : Obj} {T : List Oct} {root dflt : Array UInt8} {ut u1 u3 : Tok} {size : Nat}
set_option maxHeartbeats 4000000 in
theorem from_db (S : Site w A g s.heap) (hL : Led g s.heap [(da, odb), (ta, ot)]) (hne : @Ne Nat da ta) (hroom : A.depth + 8 < recursionLimit) (hs1 : 1 ≤ size) (hs2 : size ≤ 32) (hrl : root.toList.length = 32)
    (H : HashFn g fa ta) (hot : IsTbl prog w ot T) (hsz : T.length ≤ 100000) (lo : (ta == sysModules) = false)
    (ret : ∀ x dx t1 t2 t3 t4 t5 t6 u2 ot' T' h' tk', (∀ a o, g.get? a = some o → h'.get? a = some o) → (∀ a ∈ [(x, instObj 140 dx), (dx, dictOf (treeEs w t1 t2 t3 t4 t5 t6 (.int size u1) (.int (8 * size : Int) u2) (.bytes dflt u3) (.ref fa) (.ref da) (.bytes root ut)) 6), (da, odb), (ta, ot')], h'.get? a.1 = some a.2) →
      Fresh g [(da, odb), (ta, ot)] x → Fresh g [(da, odb), (ta, ot)] dx → @Ne Nat x dx → Ext (8 * size + 1) T T' → IsTbl prog w ot' T' → R (.ok (.ret (.ref x))) { s with heap := h', toks := tk' }) :
    codeAny (model prog w) A (.call (.ref 64) ⟨[.ref 140, .ref da, .bytes root ut, .ref fa, .int (size : Int) u1, .bytes dflt u3], []⟩) R s := by
  refine enterK (binds := [("cls", .ref 140), ("db", .ref da), ("root_hash", .bytes root ut), ("hash_of", .ref fa), ("key_size", .int (size : Int) u1), ("default", .bytes dflt u3)]) S hL (by k_is) (by k_is) (by omega) (binds_K (S.K.keeps S.sub) rfl (by k_is) rfl rfl rfl) (locs rfl) ?_ (by decide) rfl rfl rfl
  intro base fr dp un gd pp loose mean mg mb L h₁ eA B X TT F N l1
  subst eA
  simp only [Ar] at hroom
  have hr2 : root.size ≤ 1000 := by rw [← Array.length_toList]; omega
  have hr3 : (root.size : Int) = 32 := by rw [← Array.length_toList]; omega
  k_steps
  with_reducible rename Fr _ _ _ _ => F9
  with_reducible rename News _ _ _ _ => N9
  exact ret xN dN t1N t2N t3N t4N t5N t6N u2N oN TN _ _ F9.keep (led4 (N9 _ (.head _)).1 (N9 _ (.tail _ (.head _))).1 (N9 _ (.tail _ (.tail _ (.tail _ (.head _))))).1 (N9 _ (.tail _ (.tail _ (.tail _ (.tail _ (.head _)))))).1)
    ⟨(N9 _ (.head _)).2.2, by k_extra "allne"⟩ ⟨(N9 _ (.tail _ (.head _))).2.2, by k_extra "allne"⟩ neN.1 exN htN
end
end -- S13
section -- S14
theorem lines_s14_1 : True := by
  w_top off
  k_with_none
  (k_with "exec For Name Call cons nil" => (refine stop ?_))
  (k_with "exec For Name Call" => (refine stop ?_))
  (k_with "pyIter ref" => (refine stop ?_))
  (k_with "k_room" => (((try simp only [depth_under_make, depth_under_kw, depth_in1, depth_deeper, depth_caller]); omega)))
  (k_with "compareOp NotEq int int" => (refine ne_same ?_))
  (k_with "call ref" => ((k_here; (with_reducible show wpAny _ _ (call (Value.ref _) [Value.bytes _ _, Value.str _ _]) _ _ _); k_dflt (refine' from_big ?q6N ?q6m ?q6l ?q6p ?_; (case q6N => k_asm); (case q6m => k_mem); (case q6l => omega); (case q6p => assumption)); intro t' k')))
  (k_with "z cj" => (first | with_reducible assumption | exact And.left (by with_reducible assumption) | exact And.left (And.right (by with_reducible assumption)) | exact And.left (And.right (And.right (by with_reducible assumption))) | exact And.left (And.right (And.right (And.right (by with_reducible assumption)))) | exact And.left (And.right (And.right (And.right (And.right (by with_reducible assumption))))) | exact And.left (And.right (And.right (And.right (And.right (And.right (by with_reducible assumption)))))) | exact And.left (And.right (And.right (And.right (And.right (And.right (And.right (by with_reducible assumption))))))) | exact And.left (And.right (And.right (And.right (And.right (And.right (And.right (And.right (by with_reducible assumption)))))))) | exact And.right (by with_reducible assumption) | exact And.right (And.right (by with_reducible assumption)) | exact And.right (And.right (And.right (by with_reducible assumption))) | exact And.right (And.right (And.right (And.right (by with_reducible assumption)))) | exact And.right (And.right (And.right (And.right (And.right (by with_reducible assumption))))) | exact And.right (And.right (And.right (And.right (And.right (And.right (by with_reducible assumption)))))) | exact And.right (And.right (And.right (And.right (And.right (And.right (And.right (by with_reducible assumption)))))))))
  (k_with "z ne1" => (first | k_extra "z cj" | (refine Ne.symm ?_; k_extra "z cj") | exact AllNe.at1 (by with_reducible assumption) (by k_mem) | exact AllNe.at2 (by with_reducible assumption) (by k_mem) | omega))
  (k_with "k_ne" => ((refine PySem.W.neN ?_; (try dsimp only); k_extra "z ne1")))
  (k_with "execs cons" => (((with_reducible show wpAny _ _ (execs (Stmt.Assign _ _ _ :: _) _) _ _ _); refine execsGen fun P8 hP8 => ?_)))
  (k_with "execs cons" => (((with_reducible show wpAny _ _ (execs (Stmt.Expr _ _ :: _) _) _ _ _); refine execsGen fun P8 hP8 => ?_)))
  (k_with "execs cons" => (((with_reducible show wpAny _ _ (execs (Stmt.AugAssign _ _ _ _ :: _) _) _ _ _); refine execsGen fun P8 hP8 => ?_)))
  (k_with "FinQ" => ((refine finOut (by with_reducible assumption) ?_; (try dsimp only))))
  (k_with "call ref" => ((k_here; (with_reducible show wpAny _ _ (call (Value.ref 34) [Value.bytes _ _]) _ _ _); k_dflt (refine' call_valid_bytes ?q7B ?q7F ?q7X ?q7T ?q7N ?q7c1 ?q7c2 ?q7c3 ?q7c4 ?q7r ?_; (case q7F => k_asm); (case q7N => k_asm); (case q7B => k_asm); (case q7X => k_asm); (case q7T => k_asm); (case q7c1 => exact rfl); (case q7c2 => exact rfl); (case q7c3 => exact rfl); (case q7c4 => exact rfl); (case q7r => k_room)); intro h' tk' F' N'; (try k_sweep))))
  (k_with "call ref" => ((k_here; (with_reducible show wpAny _ _ (call (Value.ref 41) [Value.bytes _ _, Value.int _ _]) _ _ _); k_dflt (refine' call_valid_length ?q8B ?q8F ?q8X ?q8T ?q8N ?q8c1 ?q8c2 ?q8c3 ?q8c4 ?q8r ?q8z ?q8n ?_; (case q8F => k_asm); (case q8N => k_asm); (case q8B => k_asm); (case q8X => k_asm); (case q8T => k_asm); (case q8c1 => exact rfl); (case q8c2 => exact rfl); (case q8c3 => exact rfl); (case q8c4 => exact rfl); (case q8r => k_room); (case q8z => omega); (case q8n => omega)); intro h' tk' F' N'; (try k_sweep))))
  (k_with "getMethod type:int" => ((k_here; k_dflt (refine' KFB.getm ?q9kfbF ?q9kfbN ?q9kfbX (find_fb _) ?_; (case q9kfbF => k_asm); (case q9kfbN => k_asm); (case q9kfbX => k_asm); k_whole; intro x' h' F' N' l1; (try k_lt l1); (try k_sweep)))))
  (k_with "eval Name" => ((k_here; k_dflt (refine' nameX_L ?q10F ?q10v ?_ ?q10a ?q10b; (case q10a => rfl); (case q10b => rfl); (case q10F => k_asm); (case q10v => assumption); k_whole))))
  (k_with "subscriptTail" => ((k_here; (with_reducible show wpAny _ _ (subscriptTail _ _ (Value.ref _) (Value.bytes _ _)) _ _ _); k_dflt (refine' kb_item ?q11N ?q11p ?q11d (bk_is _ _) ?q11l ?_; (case q11N => k_asm); (case q11p => k_mem); (case q11d => assumption); (case q11l => assumption); (intro b' t' hb')))))
  (k_with "subscriptTail" => ((k_here; (with_reducible show wpAny _ _ (subscriptTail _ (Expr.Slice none _ none _) (Value.bytes _ _) (Value.ref _)) _ _ _); (with_reducible rename Fr _ _ _ _ => F'); (with_reducible rename News _ _ _ _ => N'); (refine cut_lo (s := ⟨_, _, _, _, _⟩) F' N' (by assumption) (by assumption) (by assumption) ?_); intro _ _ _ _ _ _ _)))
  (k_with "subscriptTail" => ((k_here; (with_reducible show wpAny _ _ (subscriptTail _ (Expr.Slice _ none none _) (Value.bytes _ _) (Value.ref _)) _ _ _); (with_reducible rename Fr _ _ _ _ => F'); (with_reducible rename News _ _ _ _ => N'); (refine cut_hi (s := ⟨_, _, _, _, _⟩) F' N' (by assumption) (by assumption) (by assumption) ?_); intro _ _ _ _ _ _ _)))
  (k_with "binaryOp BitAnd int int" => ((k_here; refine and_bit (by assumption) (fun hbit hpos => ?_) (fun hbit => ?_))))
  (k_with "loadName" => ((k_here; k_dflt (refine' ldn ?q12F ?q12v ?_ ?q12a ?q12b; (case q12a => rfl); (case q12b => rfl); (case q12F => k_asm); (case q12v => assumption); k_whole))))
  (k_with "truthy int" => ((refine truthy_pos (by assumption) ?_)))
  (k_with "hash1" => (exact HashFn.at1 (by assumption) (by k_asm) (by k_asm) (by k_mem)))
  (k_with "callWith ref" => ((k_here; k_dflt (refine' callWith_F ?q13k1 ?_; (case q13k1 => exact HashFn.fnAt (by assumption) (by k_asm)); k_whole))))
  (k_with "FnAt" => (exact HashFn.fnAt (by assumption) (by k_asm)))
  (k_with "And" => (((with_reducible show FnAt _ _ ∧ _); refine ⟨HashFn.fnAt (by assumption) (by k_asm), ?_⟩; try dsimp only [List.nil_append, List.cons_append])))
  (k_with "nm_m10_1" => (intro bH tH h' tk' oH TH F' N' hxH hbH hlH hotH))
  (k_with "nm_m10_2" => ((try dsimp only at N')))
  (k_with "call ref" => ((k_here; (with_reducible show wpAny _ _ (call (Value.ref _) [Value.bytes _ _]) _ _ _); k_dflt (refine' call_hash ?q14B ?q14F ?q14X ?q14T ?q14N ?q14c1 ?q14c2 ?q14c3 ?q14c4 ?q14H ?q14ot ?q14U ?q14z ?q14r ?q14lo ?_; (case q14F => k_asm); (case q14N => k_asm); (case q14B => k_asm); (case q14X => k_asm); (case q14T => k_asm); (case q14c1 => exact rfl); (case q14c2 => exact rfl); (case q14c3 => exact rfl); (case q14c4 => exact rfl); (case q14H => k_extra "hash1"); (case q14ot => assumption); (case q14U => k_updF); (case q14z => omega); (case q14r => k_room); (case q14lo => assumption)); k_extra "nm_m10_1"; k_extra "nm_m10_2"; (try k_sweep))))
  (k_with "call ref" => ((k_here; (with_reducible show wpAny _ _ (call (Value.ref 34) [Value.bytes _ _]) _ _ _); k_dflt (refine' call_valid_bytes ?q7B ?q7F ?q7X ?q7T ?q7N ?q7c1 ?q7c2 ?q7c3 ?q7c4 ?q7r ?_; (case q7F => k_asm); (case q7N => k_asm); (case q7B => k_asm); (case q7X => k_asm); (case q7T => k_asm); (case q7c1 => exact rfl); (case q7c2 => exact rfl); (case q7c3 => exact rfl); (case q7c4 => exact rfl); (case q7r => k_room)); intro h' tk' F' N'; (try k_sweep))))
  (k_with "nm_m10_3" => (intro rG qG bvsG vG bsG nG n2G h' tk' F' N' hrG hqG hqrG hoG hsG hvG))
  (k_with "nm_m10_4" => ((have hrG9 := hrG; have hqG9 := hqG; simp only [AllNe, and_true] at hrG hqG)))
  (k_with "call ref" => ((k_here; (with_reducible show wpAny _ _ (call (Value.ref 88) [Value.ref _, Value.bytes _ _]) _ _ _); k_dflt (refine' call_get ?q15B ?q15F ?q15X ?q15T ?q15N ?q15c1 ?q15c2 ?q15c3 ?q15c4 ?q15m1 ?q15m2 ?q15m3 ?q15ne ?q15r ?q15s1 ?q15s2 ?q15ky ?q15hp ?q15hp2 ?q15db ?q15hin ?_; (case q15F => k_asm); (case q15N => k_asm); (case q15B => k_asm); (case q15X => k_asm); (case q15T => k_asm); (case q15c1 => exact rfl); (case q15c2 => exact rfl); (case q15c3 => exact rfl); (case q15c4 => exact rfl); (case q15m1 => k_mem); (case q15m2 => k_mem); (case q15m3 => k_mem); (case q15ne => (refine ⟨?_, ?_, ?_⟩ <;> k_ne)); (case q15r => k_room); (case q15s1 => omega); (case q15s2 => omega); (case q15ky => assumption); (case q15hp => assumption); (case q15hp2 => assumption); (case q15db => assumption); (case q15hin => assumption)); k_extra "nm_m10_3"; k_extra "nm_m10_4"; (try k_sweep))))
  (k_with "nm_m10_5" => ((intro DR h' tk' F' N' l1; (try k_lt l1))))
  (k_with "call type:reversed" => ((k_here; (with_reducible show wpAny _ _ (call (Value.type _) [Value.ref _]) _ _ _); k_dflt (refine' reversed_tup ?q16F ?q16N ?q16m ?q16z ?_; (case q16F => k_asm); (case q16N => k_asm); (case q16m => k_mem); (case q16z => assumption)); k_extra "nm_m10_5"; (try k_sweep))))
  (k_with "nm_m10_6" => (intro h' oS F' N' hdS))
  (k_with "nm_m10_7" => ((try dsimp only at N')))
  (k_with "setItem ref bytes" => ((k_here; (with_reducible show wpAny _ _ (setItem (Value.ref _) (Value.bytes _ _) (Value.bytes _ _)) _ _ _); k_dflt (refine' kb_set ?q17F ?q17N ?q17U ?q17d (bk_is _ _) ?q17z ?_; (case q17F => k_asm); (case q17N => k_asm); (case q17U => k_updF); (case q17d => assumption); (case q17z => (simp only [sizeLine_eq]; omega)); (k_extra "nm_m10_6"); k_extra "nm_m10_7"))))
  (k_with "nm_m10_8" => (intro dA tA kA hdA))
  (k_with "binaryOp Add bytes bytes" => ((k_here; (with_reducible show wpAny _ _ (binaryOp Operator.Add (Value.bytes _ _) (Value.bytes _ _)) _ _ _); refine add_octs (by assumption) (by assumption) ?_; k_extra "nm_m10_8")))
  (k_with "nm_m10_9" => (intro tA kA))
  (k_with "inplaceOp LShift int int" => ((k_here; refine shl_pow (by assumption) (by omega) ?_; k_extra "nm_m10_9")))
  (k_with "allne" => ((simp only [AllNe, and_true]; (repeat' apply And.intro) <;> k_extra "z ne1")))
  (k_with "nm_m10_10" => ((intro DT h' tk' F' N' l1; (try k_lt l1))))
  (k_with "call type:tuple" => ((k_here; (with_reducible show wpAny _ _ (call (Value.type _) [Value.ref _]) _ _ _); k_dflt (refine' tuple_rev ?q18hh ?q18F ?q18N ?q18m ?q18c ?q18d ?q18ne ?q18z ?_; (case q18hh => exact rfl); (case q18F => k_asm); (case q18N => k_asm); (case q18m => k_mem); (case q18c => exact rfl); (case q18d => exact rfl); (case q18ne => k_extra "allne"); (case q18z => assumption)); k_extra "nm_m10_10"; (try k_sweep))))
  (k_with "nm_m12_11" => (intro vP nP h' tkQ F' N' hvP hpP))
  (k_with "nm_m12_12" => (intro eP gP hP tkP hpP RP UP FP))
  (k_with "call ref" => ((k_here; (with_reducible show wpAny _ _ (call (Value.ref 74) [Value.ref _, Value.bytes _ _]) _ _ _); k_dflt (refine' call_getp ?q19B ?q19F ?q19X ?q19T ?q19XB ?q19TB ?q19D ?q19N ?q19c1 ?q19c2 ?q19c3 ?q19c4 ?q19m1 ?q19m2 ?q19m3 ?q19ne ?q19r ?q19s1 ?q19s2 ?q19ky ?q19hp ?q19hp2 ?q19db ?q19hin ?_ ?_; (case q19F => k_asm); (case q19N => k_asm); (case q19B => k_asm); (case q19X => k_asm); (case q19T => k_asm); (case q19D => k_asm); (case q19XB => assumption); (case q19TB => assumption); (case q19c1 => exact rfl); (case q19c2 => exact rfl); (case q19c3 => exact rfl); (case q19c4 => exact rfl); (case q19m1 => k_mem); (case q19m2 => k_mem); (case q19m3 => k_mem); (case q19ne => (refine ⟨?_, ?_, ?_⟩ <;> k_ne)); (case q19r => k_room); (case q19s1 => omega); (case q19s2 => omega); (case q19ky => assumption); (case q19hp => assumption); (case q19hp2 => assumption); (case q19db => assumption); (case q19hin => assumption)); (all_goals (first | ((with_reducible show BadK _); unfold BadK; k_extra "nm_m12_12"; (try dsimp only)) | (k_extra "nm_m12_11"; (try k_sweep)))))))
  trivial
section
variable {prog : Program} {w : World} {A : Around} {s : Shared} {g : Heap} {R : Result → Shared → Prop} {fa ta x dx da : Addr} {odb : Obj} {T : List Oct} {D : List (Oct × Oct)} {key dflt root : Array UInt8} {kt t1 t2 t3 t4 t5 t6 u1 u2 u3 u6 : Tok} {size : Nat} {f : Nat → Oct} {p : Nat}
set_option maxHeartbeats 4000000 in
theorem getitem_pub (S : SiteX w A g s.heap) (hL : Led g s.heap (treeLed w t1 t2 t3 t4 t5 t6 size u1 u2 dflt u3 fa da root u6 x dx odb))
    (hne : @Ne Nat x dx ∧ @Ne Nat x da ∧ @Ne Nat dx da) (hroom : A.depth + 11 < recursionLimit) (hs1 : 1 ≤ size) (hs2 : size ≤ 2) (hkey : key.size = size) (hp : value (oInts key.toList) = (p : Int)) (hp2 : p < 2 ^ (8 * size)) (hdb : IsKB (bytesKind prog w) odb D)
    (hin : In T D (8 * size) f root.toList)
    (ret : ∀ b n h' tk', (∀ a o, g.get? a = some o → h'.get? a = some o) → (∀ a ∈ treeLed w t1 t2 t3 t4 t5 t6 size u1 u2 dflt u3 fa da root u6 x dx odb, h'.get? a.1 = some a.2) → b.toList = f p → f p ≠ [] → R (.ok (.ret (.bytes b n))) { s with heap := h', toks := tk' })
    (rais : ∀ base fr e h' tk', f p = [] → Below A base fr g → RaisedSN base g fr e (.type "KeyError") (treeLed w t1 t2 t3 t4 t5 t6 size u1 u2 dflt u3 fa da root u6 x dx odb) h' → g.UpToSlots h' → R (.error (.ref e)) { s with heap := h', toks := tk' }) :
    codeAny (model prog w) A (.call (.ref 116) ⟨[.ref x, .bytes key kt], []⟩) R s := by
  refine enterKX (binds := [("self", .ref x), ("key", .bytes key kt)]) S hL (by k_is) (by k_is) (by omega) (BindsTo.of_eq rfl) (locs rfl) ?_ (by decide) rfl rfl rfl
  intro base fr dp un gd pp loose mean mg mb pp' loose' mean' mg' mb' L h₁ eA B X TT XB TB DD F N l1
  subst eA
  simp only [Ar] at hroom
  subst hkey
  have hkr : key.size = key.size := rfl
  k_steps
  · with_reducible rename RaisedSN _ _ _ _ _ _ _ => S9
    exact rais base fr _ _ _ hpP B S9 (by assumption)
  · with_reducible rename Fr _ _ _ _ => F9
    with_reducible rename News _ _ _ _ => N9
    exact ret vP nP _ _ F9.keep (fun q hq => (N9 q hq).1) hvP hpP
end
/-- back from a call that caught what was raised in it -/
theorem turn_back {w : World} {A₀ A' : Around} {g h h' g' : Heap} {L : Addr} {m : Str → Option Value} {base b0 : Heap} {fr f0 : List Env} {env : Env} {news led : List (Addr × Obj)}
    {p' : Program} {loose' : List Str} {mean' : ExcName → Option Value} {mg' mb' : Str → Option Value}
    (B : Below A₀ base fr g) (F : Fr g L h m) (N : News g L h news) (hl : ∀ p ∈ led, p ∈ news) (hA : A'.frames = some (env :: fr)) (hf : env.frame = some L)
    (XB : (hd0.heap_1 w.params).In base) (TB : Top p' loose' mean' mg' mb' base) (D : KtsDicts (fr.filterMap (·.frame)) g)
    (B0 : Below A' b0 f0 (hideAll h (led.map (·.1)))) (T : KtsTurn (f0.filterMap (·.frame)) (hideAll h (led.map (·.1))) g') (hs : ∀ b o, g'.get? b = some o → h'.get? b = some o) (hk : ∀ a ∈ led, h'.get? a.1 = some a.2) :
    ∃ gN, KtsTurn (fr.filterMap (·.frame)) g gN ∧ Fr gN L h' m ∧ News gN L h' news ∧ Below A₀ base fr gN ∧ (hd0.heap_1 w.params).In gN ∧ Top p' loose' mean' mg' mb' gN ∧ KtsDicts (fr.filterMap (·.frame)) gN := by
  have ef : f0 = env :: fr := Option.some.inj (B0.stack.symm.trans hA)
  subst ef
  have st : ∀ b o, g.get? b = some o → (hideAll h (led.map (·.1))).get? b = some o := fun b o q => hideAll_get _ (F.keep b o q) (hide_notin N hl (by rw [q]; simp))
  have mem : ∀ b, b ∈ (env :: fr).filterMap (·.frame) → b = L ∨ b ∈ fr.filterMap (·.frame) := fun b hm => by
    obtain ⟨env', he, hf'⟩ := List.mem_filterMap.mp hm
    rcases List.mem_cons.mp he with rfl | he
    · exact .inl (Option.some.inj (hf'.symm.trans hf))
    · exact .inr (List.mem_filterMap.mpr ⟨env', he, hf'⟩)
  have up : ∀ b o, g.get? b = some o → ∃ sl, h'.get? b = some { o with slots := sl } := fun b o q => let ⟨sl, e⟩ := T.up (st b o q); ⟨sl, hs _ _ e⟩
  obtain ⟨T1, S1⟩ := kts_turn_at (h := h') (fs := fr.filterMap (·.frame)) (g := g) (fun b hb => let ⟨o, _, _, ho, _⟩ := D b hb; ⟨o, ho⟩)
    (fun b o e nm => hs _ _ (T.other b o (st b o e) fun hm => by
      rcases mem b hm with z | z
      · rw [z, kts_self F] at e; cases e
      · exact nm z)) (fun b o e _ => up b o e)
  have nL : L ∉ led.map (·.1) := fun q => by
    obtain ⟨p, hp, e⟩ := List.mem_map.mp q
    exact (N p (hl p hp)).2.1 e
  have BN : Below A₀ base fr (ktsHeap h' (fr.filterMap (·.frame)) g) := ⟨B.stack, fun b o e => T1.other b o (B.stays b o e) (fun hm => by rw [(B.frames.mem hm).1] at e; cases e), B.frames.of_keeps fun b o e _ => let ⟨sl, q⟩ := T1.up e; ⟨_, q, rfl⟩⟩
  refine ⟨_, T1, ⟨?_, S1, by rw [T1.size]; exact F.above⟩, fun q hq => ⟨?_, (N q hq).2.1, T1.none_ _ (N q hq).2.2⟩, BN, XB.keeps BN.stays, TB.keeps BN.stays, D.turn T1⟩
  · obtain ⟨oL, es, ep, hL', hd, r⟩ := F.ns
    obtain ⟨sl, q⟩ := T.up (hideAll_get _ hL' nL)
    exact ⟨_, es, ep, hs _ _ q, hd, r⟩
  · by_cases hm : q.1 ∈ led.map (·.1)
    · obtain ⟨p, hp, e1⟩ := List.mem_map.mp hm
      have h1 := (N p (hl p hp)).1
      rw [e1, (N q hq).1] at h1
      have e2 : p = q := Prod.ext e1 (Option.some.inj h1).symm
      rw [← e2]; exact hk p hp
    · refine hs _ _ (T.other _ _ (hideAll_get _ (N q hq).1 hm) fun hm' => ?_)
      rcases mem _ hm' with z | z
      · exact (N q hq).2.1 z
      · obtain ⟨o, _, _, ho, _⟩ := D _ z
        rw [(N q hq).2.2] at ho; cases ho
section
variable {prog : Program} {w : World} {A : Around} {s : Shared} {g : Heap} {E : Value → Shared → Prop} {L : Addr} {m : Str → Option Value} {base : Heap} {fr : List Env} {env : Env} {news : List (Addr × Obj)}
  {p p' : Program} {loose loose' : List Str} {mean mean' : ExcName → Option Value} {mg mb mg' mb' : Str → Option Value} {A₀ : Around} {Q : Value → Shared → Prop}
theorem call_exists {fa x dx da : Addr} {odb : Obj} {T : List Oct} {D : List (Oct × Oct)} {key dflt root : Array UInt8} {kt t1 t2 t3 t4 t5 t6 u1 u2 u3 u6 : Tok} {size : Nat} {f : Nat → Oct} {pp : Nat} (B : Below A₀ base fr g) (F : Fr g L s.heap m) (X : (hd0.heap_1 w.params).In g) (TT : Top p loose mean mg mb g) (XB : (hd0.heap_1 w.params).In base) (TB : Top p' loose' mean' mg' mb' base) (DD : KtsDicts (fr.filterMap (·.frame)) g) (N : News g L s.heap news) (hA : A.frames = some (env :: fr)) (hf : env.frame = some L) (hke : env.scope.kind = .function) (hh : A.handled = none)
    (m1 : (x, instObj 140 dx) ∈ news) (m2 : (dx, dictOf (treeEs w t1 t2 t3 t4 t5 t6 (.int size u1) (.int (8 * size : Int) u2) (.bytes dflt u3) (.ref fa) (.ref da) (.bytes root u6)) 6) ∈ news) (m3 : (da, odb) ∈ news)
    (hne : @Ne Nat x dx ∧ @Ne Nat x da ∧ @Ne Nat dx da) (hroom : A.depth + 11 < recursionLimit) (hs1 : 1 ≤ size) (hs2 : size ≤ 2) (hkey : key.size = size) (hp : value (oInts key.toList) = (pp : Int)) (hp2 : pp < 2 ^ (8 * size)) (hdb : IsKB (bytesKind prog w) odb D)
    (hin : In T D (8 * size) f root.toList)
    (h : ∀ gN h' tk', KtsTurn (fr.filterMap (·.frame)) g gN → Fr gN L h' m → News gN L h' news → Below A₀ base fr gN → (hd0.heap_1 w.params).In gN → Top p' loose' mean' mg' mb' gN → KtsDicts (fr.filterMap (·.frame)) gN → Q (.bool (decide (f pp ≠ []))) { s with heap := h', toks := tk' }) :
    wpAny (model prog w) A (call (.ref 102) [.ref x, .bytes key kt]) Q E s := by
  have hl : ∀ q ∈ treeLed w t1 t2 t3 t4 t5 t6 size u1 u2 dflt u3 fa da root u6 x dx odb, q ∈ news := led3 m1 m2 m3
  obtain ⟨S, hL⟩ := site_ofX B F X TT XB TB DD (led := _) (fun q hq => N q (hl q hq)) hA hf hke hh
  refine wpAny_call (exists_ S hL hne hroom hs1 hs2 hkey hp hp2 hdb hin fun g' h' tk' b0 f0 B0 T k kl => ?_)
  obtain ⟨gN, z1, z2, z3, z4, z5, z6, z7⟩ := turn_back B F N hl hA hf XB TB DD B0 T k kl
  exact h gN h' tk' z1 z2 z3 z4 z5 z6 z7
end
theorem lines_s14_2 : True := by
  (k_with "nm_m14_16" => ((intro gE hE tkE TE F' N' BE XE PE DE; (try k_lift BE))))
  (k_with "call ref" => ((k_here; (with_reducible show wpAny _ _ (call (Value.ref 102) [Value.ref _, Value.bytes _ _]) _ _ _); k_dflt (refine' call_exists ?q22B ?q22F ?q22X ?q22T ?q22XB ?q22TB ?q22D ?q22N ?q22c1 ?q22c2 ?q22c3 ?q22c4 ?q22m1 ?q22m2 ?q22m3 ?q22ne ?q22r ?q22s1 ?q22s2 ?q22ky ?q22hp ?q22hp2 ?q22db ?q22hin ?_; (case q22F => k_asm); (case q22N => k_asm); (case q22B => k_asm); (case q22X => k_asm); (case q22T => k_asm); (case q22D => k_asm); (case q22XB => assumption); (case q22TB => assumption); (case q22c1 => exact rfl); (case q22c2 => exact rfl); (case q22c3 => exact rfl); (case q22c4 => exact rfl); (case q22m1 => k_mem); (case q22m2 => k_mem); (case q22m3 => k_mem); (case q22ne => (refine ⟨?_, ?_, ?_⟩ <;> k_ne)); (case q22r => k_room); (case q22s1 => omega); (case q22s2 => omega); (case q22ky => assumption); (case q22hp => assumption); (case q22hp2 => assumption); (case q22db => assumption); (case q22hin => assumption)); k_extra "nm_m14_16"; (try k_sweep))))
  trivial
section
variable {prog : Program} {w : World} {A : Around} {s : Shared} {g : Heap} {R : Result → Shared → Prop} {fa ta x dx da : Addr} {odb : Obj} {T : List Oct} {D : List (Oct × Oct)} {key dflt root : Array UInt8} {kt t1 t2 t3 t4 t5 t6 u1 u2 u3 u6 : Tok} {size : Nat} {f : Nat → Oct} {p : Nat}
set_option maxHeartbeats 4000000 in
theorem contains_ (S : SiteX w A g s.heap) (hL : Led g s.heap (treeLed w t1 t2 t3 t4 t5 t6 size u1 u2 dflt u3 fa da root u6 x dx odb))
    (hne : @Ne Nat x dx ∧ @Ne Nat x da ∧ @Ne Nat dx da) (hroom : A.depth + 14 < recursionLimit) (hs1 : 1 ≤ size) (hs2 : size ≤ 2) (hkey : key.size = size) (hp : value (oInts key.toList) = (p : Int)) (hp2 : p < 2 ^ (8 * size)) (hdb : IsKB (bytesKind prog w) odb D)
    (hin : In T D (8 * size) f root.toList)
    (ret : ∀ g' h' tk' base fr, Below A base fr g → KtsTurn (fr.filterMap (·.frame)) g g' → (∀ a o, g'.get? a = some o → h'.get? a = some o) → (∀ a ∈ treeLed w t1 t2 t3 t4 t5 t6 size u1 u2 dflt u3 fa da root u6 x dx odb, h'.get? a.1 = some a.2) → R (.ok (.ret (.bool (decide (f p ≠ []))))) { s with heap := h', toks := tk' }) :
    codeAny (model prog w) A (.call (.ref 137) ⟨[.ref x, .bytes key kt], []⟩) R s := by
  refine enterKX (binds := [("self", .ref x), ("key", .bytes key kt)]) S hL (by k_is) (by k_is) (by omega) (BindsTo.of_eq rfl) (locs rfl) ?_ (by decide) rfl rfl rfl
  intro base fr dp un gd pp loose mean mg mb pp' loose' mean' mg' mb' L h₁ eA B X TT XB TB DD F N l1
  subst eA
  simp only [Ar] at hroom
  subst hkey
  have hkr : key.size = key.size := rfl
  k_steps
  with_reducible rename Fr _ _ _ _ => F9
  with_reducible rename News _ _ _ _ => N9
  exact ret gE _ _ base fr B TE F9.keep (fun q hq => (N9 q hq).1)
end
section
variable {prog : Program} {w : World} {A : Around} {s : Shared} {g : Heap} {E : Value → Shared → Prop} {L : Addr} {m : Str → Option Value} {base : Heap} {fr : List Env} {env : Env} {news : List (Addr × Obj)}
  {p p' : Program} {loose loose' : List Str} {mean mean' : ExcName → Option Value} {mg mb mg' mb' : Str → Option Value} {A₀ : Around} {Q : Value → Shared → Prop}
theorem call_getitem {fa x dx da : Addr} {odb : Obj} {T : List Oct} {D : List (Oct × Oct)} {key dflt root : Array UInt8} {kt t1 t2 t3 t4 t5 t6 u1 u2 u3 u6 : Tok} {size : Nat} {f : Nat → Oct} {pp : Nat} (B : Below A₀ base fr g) (F : Fr g L s.heap m) (X : (hd0.heap_1 w.params).In g) (TT : Top p loose mean mg mb g) (XB : (hd0.heap_1 w.params).In base) (TB : Top p' loose' mean' mg' mb' base) (DD : KtsDicts (fr.filterMap (·.frame)) g) (N : News g L s.heap news) (hA : A.frames = some (env :: fr)) (hf : env.frame = some L) (hke : env.scope.kind = .function) (hh : A.handled = none)
    (m1 : (x, instObj 140 dx) ∈ news) (m2 : (dx, dictOf (treeEs w t1 t2 t3 t4 t5 t6 (.int size u1) (.int (8 * size : Int) u2) (.bytes dflt u3) (.ref fa) (.ref da) (.bytes root u6)) 6) ∈ news) (m3 : (da, odb) ∈ news)
    (hne : @Ne Nat x dx ∧ @Ne Nat x da ∧ @Ne Nat dx da) (hroom : A.depth + 11 < recursionLimit) (hs1 : 1 ≤ size) (hs2 : size ≤ 2) (hkey : key.size = size) (hp : value (oInts key.toList) = (pp : Int)) (hp2 : pp < 2 ^ (8 * size)) (hdb : IsKB (bytesKind prog w) odb D)
    (hin : In T D (8 * size) f root.toList)
    (bad : BadK (∀ e g₂ h' tk', f pp = [] → RaisedSN base g₂ (env :: fr) e (.type "KeyError") news h' → g₂.UpToSlots h' → Fr g L g₂ m → E (.ref e) { s with heap := h', toks := tk' }))
    (h : ∀ v n h' tk', Fr g L h' m → News g L h' news → v.toList = f pp → f pp ≠ [] → Q (.bytes v n) { s with heap := h', toks := tk' }) :
    wpAny (model prog w) A (call (.ref 116) [.ref x, .bytes key kt]) Q E s := by
  have hl : ∀ q ∈ treeLed w t1 t2 t3 t4 t5 t6 size u1 u2 dflt u3 fa da root u6 x dx odb, q ∈ news := led3 m1 m2 m3
  obtain ⟨S, hL⟩ := site_ofX B F X TT XB TB DD (led := _) (fun q hq => N q (hl q hq)) hA hf hke hh
  refine wpAny_call (getitem_pub S hL hne hroom hs1 hs2 hkey hp hp2 hdb hin (fun b n h' tk' k kl e1 e2 => ?_) (fun b0 f0 e h' tk' e1 B0 R U => ?_))
  · have all := all_back k kl fun a ha => (N a (hl a ha)).1
    exact h b n h' tk' (F.keptAll all) (N.grown all) e1 e2
  · have ef : f0 = env :: fr := Option.some.inj (B0.stack.symm.trans hA)
    subst ef
    obtain ⟨R', U', F'⟩ := raise_back B F N hl hf hke R U
    exact bad e _ h' tk' e1 R' U' F'
end
section
variable {prog : Program} {w : World} {A : Around} {s : Shared} {g : Heap} {E : Value → Shared → Prop} {L : Addr} {m : Str → Option Value} {base : Heap} {fr : List Env} {env : Env} {news : List (Addr × Obj)}
  {p p' : Program} {loose loose' : List Str} {mean mean' : ExcName → Option Value} {mg mb mg' mb' : Str → Option Value} {A₀ : Around} {Q : Value → Shared → Prop}
theorem call_contains {fa x dx da : Addr} {odb : Obj} {T : List Oct} {D : List (Oct × Oct)} {key dflt root : Array UInt8} {kt t1 t2 t3 t4 t5 t6 u1 u2 u3 u6 : Tok} {size : Nat} {f : Nat → Oct} {pp : Nat} (B : Below A₀ base fr g) (F : Fr g L s.heap m) (X : (hd0.heap_1 w.params).In g) (TT : Top p loose mean mg mb g) (XB : (hd0.heap_1 w.params).In base) (TB : Top p' loose' mean' mg' mb' base) (DD : KtsDicts (fr.filterMap (·.frame)) g) (N : News g L s.heap news) (hA : A.frames = some (env :: fr)) (hf : env.frame = some L) (hke : env.scope.kind = .function) (hh : A.handled = none)
    (m1 : (x, instObj 140 dx) ∈ news) (m2 : (dx, dictOf (treeEs w t1 t2 t3 t4 t5 t6 (.int size u1) (.int (8 * size : Int) u2) (.bytes dflt u3) (.ref fa) (.ref da) (.bytes root u6)) 6) ∈ news) (m3 : (da, odb) ∈ news)
    (hne : @Ne Nat x dx ∧ @Ne Nat x da ∧ @Ne Nat dx da) (hroom : A.depth + 14 < recursionLimit) (hs1 : 1 ≤ size) (hs2 : size ≤ 2) (hkey : key.size = size) (hp : value (oInts key.toList) = (pp : Int)) (hp2 : pp < 2 ^ (8 * size)) (hdb : IsKB (bytesKind prog w) odb D)
    (hin : In T D (8 * size) f root.toList)
    (h : ∀ gN h' tk', KtsTurn (fr.filterMap (·.frame)) g gN → Fr gN L h' m → News gN L h' news → Below A₀ base fr gN → (hd0.heap_1 w.params).In gN → Top p' loose' mean' mg' mb' gN → KtsDicts (fr.filterMap (·.frame)) gN → Q (.bool (decide (f pp ≠ []))) { s with heap := h', toks := tk' }) :
    wpAny (model prog w) A (call (.ref 137) [.ref x, .bytes key kt]) Q E s := by
  have hl : ∀ q ∈ treeLed w t1 t2 t3 t4 t5 t6 size u1 u2 dflt u3 fa da root u6 x dx odb, q ∈ news := led3 m1 m2 m3
  obtain ⟨S, hL⟩ := site_ofX B F X TT XB TB DD (led := _) (fun q hq => N q (hl q hq)) hA hf hke hh
  refine wpAny_call (contains_ S hL hne hroom hs1 hs2 hkey hp hp2 hdb hin fun g' h' tk' b0 f0 B0 T k kl => ?_)
  obtain ⟨gN, z1, z2, z3, z4, z5, z6, z7⟩ := turn_back B F N hl hA hf XB TB DD B0 T k kl
  exact h gN h' tk' z1 z2 z3 z4 z5 z6 z7
end
theorem lines_s14_3 : True := by
  (k_with "nm_m14d_17" => (intro vP nP h' tkQ F' N' hvP hpP))
  (k_with "nm_m14d_18" => (intro eP gP hP tkP hpP RP UP FP))
  (k_with "call ref" => ((k_here; (with_reducible show wpAny _ _ (call (Value.ref 116) [Value.ref _, Value.bytes _ _]) _ _ _); k_dflt (refine' call_getitem ?q23B ?q23F ?q23X ?q23T ?q23XB ?q23TB ?q23D ?q23N ?q23c1 ?q23c2 ?q23c3 ?q23c4 ?q23m1 ?q23m2 ?q23m3 ?q23ne ?q23r ?q23s1 ?q23s2 ?q23ky ?q23hp ?q23hp2 ?q23db ?q23hin ?_ ?_; (case q23F => k_asm); (case q23N => k_asm); (case q23B => k_asm); (case q23X => k_asm); (case q23T => k_asm); (case q23D => k_asm); (case q23XB => assumption); (case q23TB => assumption); (case q23c1 => exact rfl); (case q23c2 => exact rfl); (case q23c3 => exact rfl); (case q23c4 => exact rfl); (case q23m1 => k_mem); (case q23m2 => k_mem); (case q23m3 => k_mem); (case q23ne => (refine ⟨?_, ?_, ?_⟩ <;> k_ne)); (case q23r => k_room); (case q23s1 => omega); (case q23s2 => omega); (case q23ky => assumption); (case q23hp => assumption); (case q23hp2 => assumption); (case q23db => assumption); (case q23hin => assumption)); (all_goals (first | ((with_reducible show BadK _); unfold BadK; k_extra "nm_m14d_18"; (try dsimp only)) | (k_extra "nm_m14d_17"; (try k_sweep)))))))
  (k_with "nm_m14d_19" => ((intro gE hE tkE TE F' N' BE XE PE DE; (try k_lift BE))))
  (k_with "call ref" => ((k_here; (with_reducible show wpAny _ _ (call (Value.ref 137) [Value.ref _, Value.bytes _ _]) _ _ _); k_dflt (refine' call_contains ?q24B ?q24F ?q24X ?q24T ?q24XB ?q24TB ?q24D ?q24N ?q24c1 ?q24c2 ?q24c3 ?q24c4 ?q24m1 ?q24m2 ?q24m3 ?q24ne ?q24r ?q24s1 ?q24s2 ?q24ky ?q24hp ?q24hp2 ?q24db ?q24hin ?_; (case q24F => k_asm); (case q24N => k_asm); (case q24B => k_asm); (case q24X => k_asm); (case q24T => k_asm); (case q24D => k_asm); (case q24XB => assumption); (case q24TB => assumption); (case q24c1 => exact rfl); (case q24c2 => exact rfl); (case q24c3 => exact rfl); (case q24c4 => exact rfl); (case q24m1 => k_mem); (case q24m2 => k_mem); (case q24m3 => k_mem); (case q24ne => (refine ⟨?_, ?_, ?_⟩ <;> k_ne)); (case q24r => k_room); (case q24s1 => omega); (case q24s2 => omega); (case q24ky => assumption); (case q24hp => assumption); (case q24hp2 => assumption); (case q24db => assumption); (case q24hin => assumption)); k_extra "nm_m14d_19"; (try k_sweep))))
  trivial
theorem due_bad {due : Array UInt8} {x : Oct} (h : due.toList = x) (e : x = []) : (due.toList == (#[] : Array UInt8).toList) = true := by rw [h, e]; rfl
theorem due_ok {due : Array UInt8} {x : Oct} (h : due.toList = x) (e : x ≠ []) : (due.toList != (#[] : Array UInt8).toList) = true := by
  rw [h]; exact bne_iff_ne.mpr e
theorem due_no {due v : Array UInt8} {x : Oct} (h : due.toList = x) (e : v.toList = x) : (v.toList == due.toList) = true := by rw [h, e]; exact beq_self_eq_true _
section
variable {prog : Program} {w : World} {A : Around} {s : Shared} {g : Heap} {R : Result → Shared → Prop} {fa ta x dx da : Addr} {odb : Obj} {T : List Oct} {D : List (Oct × Oct)} {key dflt root due : Array UInt8} {kt vt t1 t2 t3 t4 t5 t6 u1 u2 u3 u6 : Tok} {size : Nat} {f : Nat → Oct} {p : Nat} {sign : Bool}
set_option maxHeartbeats 4000000 in
theorem law_get (S : SiteX w A g s.heap) (hL : Led g s.heap (treeLed w t1 t2 t3 t4 t5 t6 size u1 u2 dflt u3 fa da root u6 x dx odb))
    (hne : @Ne Nat x dx ∧ @Ne Nat x da ∧ @Ne Nat dx da) (hroom : A.depth + 14 < recursionLimit) (hs1 : 1 ≤ size) (hs2 : size ≤ 2) (hkey : key.size = size) (hp : value (oInts key.toList) = (p : Int)) (hp2 : p < 2 ^ (8 * size)) (hdb : IsKB (bytesKind prog w) odb D)
    (hin : In T D (8 * size) f root.toList) (hdue : due.toList = f p)
    (ret : ∀ g' h' tk' base fr, Below A base fr g → KtsTurn (fr.filterMap (·.frame)) g g' → (∀ a o, g'.get? a = some o → h'.get? a = some o) → (∀ a ∈ treeLed w t1 t2 t3 t4 t5 t6 size u1 u2 dflt u3 fa da root u6 x dx odb, h'.get? a.1 = some a.2) → R (.ok (.ret (.bool true))) { s with heap := h', toks := tk' }) :
    codeAny (model prog w) A (.call (.ref 184) ⟨[.ref x, .bytes key kt, .bytes due vt, .bool sign], []⟩) R s := by
  refine enterKX (binds := [("tree", .ref x), ("name", .bytes key kt), ("due", .bytes due vt), ("sign", .bool sign)]) S hL (by k_is) (by k_is) (by omega) (BindsTo.of_eq rfl) (locs rfl) ?_ (by decide) rfl rfl rfl
  intro base fr dp un gd pp loose mean mg mb pp' loose' mean' mg' mb' L h₁ eA B X TT XB TB DD F N l1
  subst eA
  simp only [Ar] at hroom
  subst hkey
  have hkr : key.size = key.size := rfl
  k_steps
  · with_reducible rename Fr _ _ _ _ => F9
    with_reducible rename News _ _ _ _ => N9
    with_reducible rename KtsTurn _ _ _ => T9
    have e9 := due_bad hdue hpP
    have z := fun tk9 => ret _ _ tk9 base fr B T9 F9.keep (fun q hq => (N9 q hq).1)
    rw [← e9] at z
    exact z _
  · with_reducible rename Fr _ _ _ _ => F9
    with_reducible rename News _ _ _ _ => N9
    have e9 := due_ok hdue hpP
    have z := fun tk9 => ret _ _ tk9 base fr B KtsTurn.refl F9.keep (fun q hq => (N9 q hq).1)
    rw [← e9] at z
    exact z _
  · have e9 := due_no hdue hvP
    rename_i a9
    first | (rw [a9] at e9; cases e9) | (simp_all)
  · with_reducible rename Fr _ _ _ _ => F9
    with_reducible rename News _ _ _ _ => N9
    with_reducible rename KtsTurn _ _ _ => T9
    have e9 := due_bad hdue hpP
    have z := fun tk9 => ret _ _ tk9 base fr B T9 F9.keep (fun q hq => (N9 q hq).1)
    rw [← e9] at z
    exact z _
  · with_reducible rename Fr _ _ _ _ => F9
    with_reducible rename News _ _ _ _ => N9
    have e9 := due_ok hdue hpP
    have z := fun tk9 => ret _ _ tk9 base fr B KtsTurn.refl F9.keep (fun q hq => (N9 q hq).1)
    rw [← e9] at z
    exact z _
  · have e9 := due_no hdue hvP
    rename_i a9
    first | (rw [a9] at e9; cases e9) | (simp_all)
end
end -- S14
section -- S15
theorem lines_s15_1 : True := by
  w_top off
  k_with_none
  (k_with "exec For Name Call cons nil" => (refine stop ?_))
  (k_with "exec For Name Call" => (refine stop ?_))
  (k_with "pyIter ref" => (refine stop ?_))
  (k_with "k_room" => (((try simp only [depth_under_make, depth_under_kw, depth_in1, depth_deeper, depth_caller]); omega)))
  (k_with "compareOp NotEq int int" => (refine ne_same ?_))
  (k_with "call ref" => ((k_here; (with_reducible show wpAny _ _ (call (Value.ref _) [Value.bytes _ _, Value.str _ _]) _ _ _); k_dflt (refine' from_big ?q6N ?q6m ?q6l ?q6p ?_; (case q6N => k_asm); (case q6m => k_mem); (case q6l => omega); (case q6p => assumption)); intro t' k')))
  (k_with "z cj" => (first | with_reducible assumption | exact And.left (by with_reducible assumption) | exact And.left (And.right (by with_reducible assumption)) | exact And.left (And.right (And.right (by with_reducible assumption))) | exact And.left (And.right (And.right (And.right (by with_reducible assumption)))) | exact And.left (And.right (And.right (And.right (And.right (by with_reducible assumption))))) | exact And.left (And.right (And.right (And.right (And.right (And.right (by with_reducible assumption)))))) | exact And.left (And.right (And.right (And.right (And.right (And.right (And.right (by with_reducible assumption))))))) | exact And.left (And.right (And.right (And.right (And.right (And.right (And.right (And.right (by with_reducible assumption)))))))) | exact And.right (by with_reducible assumption) | exact And.right (And.right (by with_reducible assumption)) | exact And.right (And.right (And.right (by with_reducible assumption))) | exact And.right (And.right (And.right (And.right (by with_reducible assumption)))) | exact And.right (And.right (And.right (And.right (And.right (by with_reducible assumption))))) | exact And.right (And.right (And.right (And.right (And.right (And.right (by with_reducible assumption)))))) | exact And.right (And.right (And.right (And.right (And.right (And.right (And.right (by with_reducible assumption)))))))))
  (k_with "z ne1" => (first | k_extra "z cj" | (refine Ne.symm ?_; k_extra "z cj") | exact AllNe.at1 (by with_reducible assumption) (by k_mem) | exact AllNe.at2 (by with_reducible assumption) (by k_mem) | omega))
  (k_with "k_ne" => ((refine PySem.W.neN ?_; (try dsimp only); k_extra "z ne1")))
  (k_with "execs cons" => (((with_reducible show wpAny _ _ (execs (Stmt.Assign _ _ _ :: _) _) _ _ _); refine execsGen fun P8 hP8 => ?_)))
  (k_with "execs cons" => (((with_reducible show wpAny _ _ (execs (Stmt.Expr _ _ :: _) _) _ _ _); refine execsGen fun P8 hP8 => ?_)))
  (k_with "execs cons" => (((with_reducible show wpAny _ _ (execs (Stmt.AugAssign _ _ _ _ :: _) _) _ _ _); refine execsGen fun P8 hP8 => ?_)))
  (k_with "FinQ" => ((refine finOut (by with_reducible assumption) ?_; (try dsimp only))))
  (k_with "call ref" => ((k_here; (with_reducible show wpAny _ _ (call (Value.ref 34) [Value.bytes _ _]) _ _ _); k_dflt (refine' call_valid_bytes ?q7B ?q7F ?q7X ?q7T ?q7N ?q7c1 ?q7c2 ?q7c3 ?q7c4 ?q7r ?_; (case q7F => k_asm); (case q7N => k_asm); (case q7B => k_asm); (case q7X => k_asm); (case q7T => k_asm); (case q7c1 => exact rfl); (case q7c2 => exact rfl); (case q7c3 => exact rfl); (case q7c4 => exact rfl); (case q7r => k_room)); intro h' tk' F' N'; (try k_sweep))))
  (k_with "call ref" => ((k_here; (with_reducible show wpAny _ _ (call (Value.ref 41) [Value.bytes _ _, Value.int _ _]) _ _ _); k_dflt (refine' call_valid_length ?q8B ?q8F ?q8X ?q8T ?q8N ?q8c1 ?q8c2 ?q8c3 ?q8c4 ?q8r ?q8z ?q8n ?_; (case q8F => k_asm); (case q8N => k_asm); (case q8B => k_asm); (case q8X => k_asm); (case q8T => k_asm); (case q8c1 => exact rfl); (case q8c2 => exact rfl); (case q8c3 => exact rfl); (case q8c4 => exact rfl); (case q8r => k_room); (case q8z => omega); (case q8n => omega)); intro h' tk' F' N'; (try k_sweep))))
  (k_with "getMethod type:int" => ((k_here; k_dflt (refine' KFB.getm ?q9kfbF ?q9kfbN ?q9kfbX (find_fb _) ?_; (case q9kfbF => k_asm); (case q9kfbN => k_asm); (case q9kfbX => k_asm); k_whole; intro x' h' F' N' l1; (try k_lt l1); (try k_sweep)))))
  (k_with "eval Name" => ((k_here; k_dflt (refine' nameX_L ?q10F ?q10v ?_ ?q10a ?q10b; (case q10a => rfl); (case q10b => rfl); (case q10F => k_asm); (case q10v => assumption); k_whole))))
  (k_with "subscriptTail" => ((k_here; (with_reducible show wpAny _ _ (subscriptTail _ _ (Value.ref _) (Value.bytes _ _)) _ _ _); k_dflt (refine' kb_item ?q11N ?q11p ?q11d (bk_is _ _) ?q11l ?_; (case q11N => k_asm); (case q11p => k_mem); (case q11d => assumption); (case q11l => assumption); (intro b' t' hb')))))
  (k_with "subscriptTail" => ((k_here; (with_reducible show wpAny _ _ (subscriptTail _ (Expr.Slice none _ none _) (Value.bytes _ _) (Value.ref _)) _ _ _); (with_reducible rename Fr _ _ _ _ => F'); (with_reducible rename News _ _ _ _ => N'); (refine cut_lo (s := ⟨_, _, _, _, _⟩) F' N' (by assumption) (by assumption) (by assumption) ?_); intro _ _ _ _ _ _ _)))
  (k_with "subscriptTail" => ((k_here; (with_reducible show wpAny _ _ (subscriptTail _ (Expr.Slice _ none none _) (Value.bytes _ _) (Value.ref _)) _ _ _); (with_reducible rename Fr _ _ _ _ => F'); (with_reducible rename News _ _ _ _ => N'); (refine cut_hi (s := ⟨_, _, _, _, _⟩) F' N' (by assumption) (by assumption) (by assumption) ?_); intro _ _ _ _ _ _ _)))
  (k_with "binaryOp BitAnd int int" => ((k_here; refine and_bit (by assumption) (fun hbit hpos => ?_) (fun hbit => ?_))))
  (k_with "loadName" => ((k_here; k_dflt (refine' ldn ?q12F ?q12v ?_ ?q12a ?q12b; (case q12a => rfl); (case q12b => rfl); (case q12F => k_asm); (case q12v => assumption); k_whole))))
  (k_with "truthy int" => ((refine truthy_pos (by assumption) ?_)))
  (k_with "hash1" => (exact HashFn.at1 (by assumption) (by k_asm) (by k_asm) (by k_mem)))
  (k_with "callWith ref" => ((k_here; k_dflt (refine' callWith_F ?q13k1 ?_; (case q13k1 => exact HashFn.fnAt (by assumption) (by k_asm)); k_whole))))
  (k_with "FnAt" => (exact HashFn.fnAt (by assumption) (by k_asm)))
  (k_with "And" => (((with_reducible show FnAt _ _ ∧ _); refine ⟨HashFn.fnAt (by assumption) (by k_asm), ?_⟩; try dsimp only [List.nil_append, List.cons_append])))
  (k_with "nm_m10_1" => (intro bH tH h' tk' oH TH F' N' hxH hbH hlH hotH))
  (k_with "nm_m10_2" => ((try dsimp only at N')))
  (k_with "call ref" => ((k_here; (with_reducible show wpAny _ _ (call (Value.ref _) [Value.bytes _ _]) _ _ _); k_dflt (refine' call_hash ?q14B ?q14F ?q14X ?q14T ?q14N ?q14c1 ?q14c2 ?q14c3 ?q14c4 ?q14H ?q14ot ?q14U ?q14z ?q14r ?q14lo ?_; (case q14F => k_asm); (case q14N => k_asm); (case q14B => k_asm); (case q14X => k_asm); (case q14T => k_asm); (case q14c1 => exact rfl); (case q14c2 => exact rfl); (case q14c3 => exact rfl); (case q14c4 => exact rfl); (case q14H => k_extra "hash1"); (case q14ot => assumption); (case q14U => k_updF); (case q14z => omega); (case q14r => k_room); (case q14lo => assumption)); k_extra "nm_m10_1"; k_extra "nm_m10_2"; (try k_sweep))))
  (k_with "call ref" => ((k_here; (with_reducible show wpAny _ _ (call (Value.ref 34) [Value.bytes _ _]) _ _ _); k_dflt (refine' call_valid_bytes ?q7B ?q7F ?q7X ?q7T ?q7N ?q7c1 ?q7c2 ?q7c3 ?q7c4 ?q7r ?_; (case q7F => k_asm); (case q7N => k_asm); (case q7B => k_asm); (case q7X => k_asm); (case q7T => k_asm); (case q7c1 => exact rfl); (case q7c2 => exact rfl); (case q7c3 => exact rfl); (case q7c4 => exact rfl); (case q7r => k_room)); intro h' tk' F' N'; (try k_sweep))))
  (k_with "nm_m10_3" => (intro rG qG bvsG vG bsG nG n2G h' tk' F' N' hrG hqG hqrG hoG hsG hvG))
  (k_with "nm_m10_4" => ((have hrG9 := hrG; have hqG9 := hqG; simp only [AllNe, and_true] at hrG hqG)))
  (k_with "call ref" => ((k_here; (with_reducible show wpAny _ _ (call (Value.ref 88) [Value.ref _, Value.bytes _ _]) _ _ _); k_dflt (refine' call_get ?q15B ?q15F ?q15X ?q15T ?q15N ?q15c1 ?q15c2 ?q15c3 ?q15c4 ?q15m1 ?q15m2 ?q15m3 ?q15ne ?q15r ?q15s1 ?q15s2 ?q15ky ?q15hp ?q15hp2 ?q15db ?q15hin ?_; (case q15F => k_asm); (case q15N => k_asm); (case q15B => k_asm); (case q15X => k_asm); (case q15T => k_asm); (case q15c1 => exact rfl); (case q15c2 => exact rfl); (case q15c3 => exact rfl); (case q15c4 => exact rfl); (case q15m1 => k_mem); (case q15m2 => k_mem); (case q15m3 => k_mem); (case q15ne => (refine ⟨?_, ?_, ?_⟩ <;> k_ne)); (case q15r => k_room); (case q15s1 => omega); (case q15s2 => omega); (case q15ky => assumption); (case q15hp => assumption); (case q15hp2 => assumption); (case q15db => assumption); (case q15hin => assumption)); k_extra "nm_m10_3"; k_extra "nm_m10_4"; (try k_sweep))))
  (k_with "nm_m10_5" => ((intro DR h' tk' F' N' l1; (try k_lt l1))))
  (k_with "call type:reversed" => ((k_here; (with_reducible show wpAny _ _ (call (Value.type _) [Value.ref _]) _ _ _); k_dflt (refine' reversed_tup ?q16F ?q16N ?q16m ?q16z ?_; (case q16F => k_asm); (case q16N => k_asm); (case q16m => k_mem); (case q16z => assumption)); k_extra "nm_m10_5"; (try k_sweep))))
  (k_with "nm_m10_6" => (intro h' oS F' N' hdS))
  (k_with "nm_m10_7" => ((try dsimp only at N')))
  (k_with "setItem ref bytes" => ((k_here; (with_reducible show wpAny _ _ (setItem (Value.ref _) (Value.bytes _ _) (Value.bytes _ _)) _ _ _); k_dflt (refine' kb_set ?q17F ?q17N ?q17U ?q17d (bk_is _ _) ?q17z ?_; (case q17F => k_asm); (case q17N => k_asm); (case q17U => k_updF); (case q17d => assumption); (case q17z => (simp only [sizeLine_eq]; omega)); (k_extra "nm_m10_6"); k_extra "nm_m10_7"))))
  (k_with "nm_m10_8" => (intro dA tA kA hdA))
  (k_with "binaryOp Add bytes bytes" => ((k_here; (with_reducible show wpAny _ _ (binaryOp Operator.Add (Value.bytes _ _) (Value.bytes _ _)) _ _ _); refine add_octs (by assumption) (by assumption) ?_; k_extra "nm_m10_8")))
  (k_with "nm_m10_9" => (intro tA kA))
  (k_with "inplaceOp LShift int int" => ((k_here; refine shl_pow (by assumption) (by omega) ?_; k_extra "nm_m10_9")))
  (k_with "allne" => ((simp only [AllNe, and_true]; (repeat' apply And.intro) <;> k_extra "z ne1")))
  (k_with "nm_m10_10" => ((intro DT h' tk' F' N' l1; (try k_lt l1))))
  (k_with "call type:tuple" => ((k_here; (with_reducible show wpAny _ _ (call (Value.type _) [Value.ref _]) _ _ _); k_dflt (refine' tuple_rev ?q18hh ?q18F ?q18N ?q18m ?q18c ?q18d ?q18ne ?q18z ?_; (case q18hh => exact rfl); (case q18F => k_asm); (case q18N => k_asm); (case q18m => k_mem); (case q18c => exact rfl); (case q18d => exact rfl); (case q18ne => k_extra "allne"); (case q18z => assumption)); k_extra "nm_m10_10"; (try k_sweep))))
  trivial
inductive Upd3 (d1 d2 d3 : Addr) (o1 o2 o3 : Obj) : List (Addr × Obj) → (Obj → Obj → Obj → List (Addr × Obj)) → Prop
  | nil : Upd3 d1 d2 d3 o1 o2 o3 [] (fun _ _ _ => [])
  | one {r g} : Upd3 d1 d2 d3 o1 o2 o3 r g → Upd3 d1 d2 d3 o1 o2 o3 ((d1, o1) :: r) (fun a b c => (d1, a) :: g a b c)
  | two {r g} : Upd3 d1 d2 d3 o1 o2 o3 r g → Upd3 d1 d2 d3 o1 o2 o3 ((d2, o2) :: r) (fun a b c => (d2, b) :: g a b c)
  | three {r g} : Upd3 d1 d2 d3 o1 o2 o3 r g → Upd3 d1 d2 d3 o1 o2 o3 ((d3, o3) :: r) (fun a b c => (d3, c) :: g a b c)
  | skip {p r g} : @Ne Nat p.1 d1 ∧ @Ne Nat p.1 d2 ∧ @Ne Nat p.1 d3 → Upd3 d1 d2 d3 o1 o2 o3 r g → Upd3 d1 d2 d3 o1 o2 o3 (p :: r) (fun a b c => p :: g a b c)
theorem Upd3.all {d1 d2 d3 : Addr} {o1 o2 o3 a b c : Obj} {P : Addr × Obj → Prop} {news : List (Addr × Obj)} {g : Obj → Obj → Obj → List (Addr × Obj)} (U : Upd3 d1 d2 d3 o1 o2 o3 news g) (h : ∀ p ∈ news, p.1 ≠ d1 → p.1 ≠ d2 → p.1 ≠ d3 → P p) (h1 : P (d1, a)) (h2 : P (d2, b)) (h3 : P (d3, c)) : ∀ p ∈ g a b c, P p := by
  induction U with
  | nil => intro p hp; cases hp
  | one U ih =>
    intro p hp
    rcases List.mem_cons.mp hp with rfl | hp
    · exact h1
    · exact ih (fun q hq => h q (.tail _ hq)) p hp
  | two U ih =>
    intro p hp
    rcases List.mem_cons.mp hp with rfl | hp
    · exact h2
    · exact ih (fun q hq => h q (.tail _ hq)) p hp
  | three U ih =>
    intro p hp
    rcases List.mem_cons.mp hp with rfl | hp
    · exact h3
    · exact ih (fun q hq => h q (.tail _ hq)) p hp
  | skip hn U ih =>
    intro p hp
    rcases List.mem_cons.mp hp with rfl | hp
    · exact h _ (.head _) hn.1 hn.2.1 hn.2.2
    · exact ih (fun q hq => h q (.tail _ hq)) p hp
theorem Upd3.addrs {d1 d2 d3 e : Addr} {o1 o2 o3 : Obj} {news : List (Addr × Obj)} {g : Obj → Obj → Obj → List (Addr × Obj)} (U : Upd3 d1 d2 d3 o1 o2 o3 news g) (a b c : Obj) (h : AllNe e news) : AllNe e (g a b c) := by
  induction U with
  | nil => trivial
  | one U ih => exact ⟨h.1, ih h.2⟩
  | two U ih => exact ⟨h.1, ih h.2⟩
  | three U ih => exact ⟨h.1, ih h.2⟩
  | skip hn U ih => exact ⟨h.1, ih h.2⟩
theorem news_upd3 {g h h' : Heap} {L : Addr} {news : List (Addr × Obj)} {as : List Addr} {d1 d2 d3 : Addr} {o1 o2 o3 a b c : Obj} {gn : Obj → Obj → Obj → List (Addr × Obj)} (N : News g L h news) (U : Upd3 d1 d2 d3 o1 o2 o3 news gn) (hk : ∀ b o, (hideAll h as).get? b = some o → h'.get? b = some o)
    (m1 : (d1, o1) ∈ news) (m2 : (d2, o2) ∈ news) (m3 : (d3, o3) ∈ news) (hoff : ∀ p ∈ news, p.1 ≠ d1 → p.1 ≠ d2 → p.1 ≠ d3 → p.1 ∈ as → h'.get? p.1 = some p.2)
    (h1 : h'.get? d1 = some a) (h2 : h'.get? d2 = some b) (h3 : h'.get? d3 = some c) : News g L h' (gn a b c) :=
  U.all (P := fun p => h'.get? p.1 = some p.2 ∧ p.1 ≠ L ∧ g.get? p.1 = none) (fun p hp n1 n2 n3 => by
    refine ⟨?_, (N p hp).2⟩
    by_cases q : p.1 ∈ as
    · exact hoff p hp n1 n2 n3 q
    · exact hk _ _ (hideAll_get _ (N p hp).1 q)) ⟨h1, (N _ m1).2⟩ ⟨h2, (N _ m2).2⟩ ⟨h3, (N _ m3).2⟩
theorem HashFn.at4 {g h : Heap} {L fa ta x dx da : Addr} {ox odx oda ot : Obj} {m : Str → Option Value} {news : List (Addr × Obj)} (H : HashFn g fa ta) (F : Fr g L h m) (N : News g L h news) (m1 : (x, ox) ∈ news) (m2 : (dx, odx) ∈ news) (m3 : (da, oda) ∈ news) (m4 : (ta, ot) ∈ news) : HashFn (hideAll h [x, dx, da, ta]) fa ta :=
  H.site F N (led := [(x, ox), (dx, odx), (da, oda), (ta, ot)]) (led4 m1 m2 m3 m4)
def SetPost (prog : Program) (w : World) (T T' : List Oct) (D D' : List (Oct × Oct)) (f : Nat → Oct) (p : Nat) (v : Oct) (size : Nat) (root' : Array UInt8) (ot' odb' : Obj) : Prop :=
  Ext (8 * size + 1) T T' ∧ IsTbl prog w ot' T' ∧ IsKB (bytesKind prog w) odb' D' ∧ DbOk T' D' ∧ Over D D' ∧ D'.length ≤ D.length + (8 * size + 1) ∧ In T' D' (8 * size) (upd f p v) root'.toList
section
variable {prog : Program} {w : World} {A : Around} {s : Shared} {g : Heap} {E : Value → Shared → Prop} {L : Addr} {m : Str → Option Value} {base : Heap} {fr : List Env} {env : Env} {news : List (Addr × Obj)}
  {p : Program} {loose : List Str} {mean : ExcName → Option Value} {mg mb : Str → Option Value} {A₀ : Around} {Q : Value → Shared → Prop}
theorem call_set {fa ta x dx da : Addr} {ot odb : Obj} {T : List Oct} {D : List (Oct × Oct)} {key dflt root v : Array UInt8} {kt vt t1 t2 t3 t4 t5 t6 u1 u2 u3 u6 : Tok} {size : Nat} {f : Nat → Oct} {pp : Nat} {gn : Obj → Obj → Obj → List (Addr × Obj)} (B : Below A₀ base fr g) (F : Fr g L s.heap m) (X : (hd0.heap_1 w.params).In g) (TT : Top p loose mean mg mb g) (N : News g L s.heap news) (hA : A.frames = some (env :: fr)) (hf : env.frame = some L) (hke : env.scope.kind = .function) (hh : A.handled = none)
    (m1 : (x, instObj 140 dx) ∈ news) (m2 : (dx, dictOf (treeEs w t1 t2 t3 t4 t5 t6 (.int size u1) (.int (8 * size : Int) u2) (.bytes dflt u3) (.ref fa) (.ref da) (.bytes root u6)) 6) ∈ news) (m3 : (da, odb) ∈ news) (m4 : (ta, ot) ∈ news)
    (U : Upd3 dx da ta (dictOf (treeEs w t1 t2 t3 t4 t5 t6 (.int size u1) (.int (8 * size : Int) u2) (.bytes dflt u3) (.ref fa) (.ref da) (.bytes root u6)) 6) odb ot news gn)
    (hne : @Ne Nat x dx ∧ @Ne Nat x da ∧ @Ne Nat x ta ∧ @Ne Nat dx da ∧ @Ne Nat dx ta ∧ @Ne Nat da ta) (hroom : A.depth + 8 < recursionLimit) (hs1 : 1 ≤ size) (hs2 : size ≤ 2) (hkey : key.size = size) (hp : value (oInts key.toList) = (pp : Int)) (hp2 : pp < 2 ^ (8 * size)) (hdb : IsKB (bytesKind prog w) odb D)
    (H : HashFn (hideAll s.heap [x, dx, da, ta]) fa ta) (hot : IsTbl prog w ot T) (hsz : T.length ≤ 100000) (hszD : D.length ≤ 100000) (lo : (ta == sysModules) = false) (ok : DbOk T D)
    (hin : In T D (8 * size) f root.toList)
    (h : ∀ r pvs bs root' n6 n ot' odb' T' D' h' tk', Fr g L h' m → News g L h' ((r, { cls := .type "tuple", data := .seq (List.toArray pvs) n }) :: gn (dictOf (treeEs w t1 t2 t3 t4 t5 t6 (.int size u1) (.int (8 * size : Int) u2) (.bytes dflt u3) (.ref fa) (.ref da) (.bytes root' n6)) 6) odb' ot') →
      AllNe r (gn (dictOf [] 0) odb' ot') → Octs pvs bs → Ons T' (upd f pp v.toList) pp (8 * size) bs → SetPost prog w T T' D D' f pp v.toList size root' ot' odb' → Q (.ref r) { s with heap := h', toks := tk' }) :
    wpAny (model prog w) A (call (.ref 95) [.ref x, .bytes key kt, .bytes v vt]) Q E s := by
  have hl : ∀ q ∈ [(x, instObj 140 dx), (dx, dictOf (treeEs w t1 t2 t3 t4 t5 t6 (.int size u1) (.int (8 * size : Int) u2) (.bytes dflt u3) (.ref fa) (.ref da) (.bytes root u6)) 6), (da, odb), (ta, ot)], q ∈ news := led4 m1 m2 m3 m4
  obtain ⟨S, hL⟩ := site_of B F X TT (led := _) (fun q hq => N q (hl q hq)) hA hf hke hh
  refine wpAny_call (set_ S hL hne hroom hs1 hs2 hkey hp hp2 hdb H hot hsz hszD lo ok hin fun r pvs bs root' n6 n ot' odb' T' D' h' tk' k kl hr fr0 o1 o2 e1 e2 e3 e4 e5 e6 e7 => ?_)
  obtain ⟨r1, r2⟩ := fresh_all N (led := [(x, instObj 140 dx), (dx, instObj 140 dx), (da, odb), (ta, ot)]) fr0
  have hx := kl (x, instObj 140 dx) (.head _)
  have hdx := kl _ (.tail _ (.head _))
  have hda := kl _ (.tail _ (.tail _ (.head _)))
  have hta := kl _ (.tail _ (.tail _ (.tail _ (.head _))))
  refine h r pvs bs root' n6 n ot' odb' T' D' h' tk' (fr_back F (fun q hq => N q (hl q hq)) k) (fun a ha => ?_) (U.addrs _ _ _ r2) o1 o2 ⟨e1, e2, e3, e4, e5, e6, e7⟩
  rcases List.mem_cons.mp ha with rfl | ha
  · exact new_back F hr r1
  · refine news_upd3 N U k m2 m3 m4 (fun q hq n1 n2 n3 hm => ?_) hdx hda hta a ha
    simp only [List.map_cons, List.map_nil, List.mem_cons, List.not_mem_nil, or_false] at hm
    rcases hm with e | e | e | e
    · have h1 := (N q hq).1
      rw [e, (N _ m1).1] at h1
      rw [e, hx, Option.some.inj h1]
    · exact absurd e n1
    · exact absurd e n2
    · exact absurd e n3
end
theorem lines_s15_2 : True := by
  (k_with "k_upd3" => (first | exact Upd3.nil | (refine' Upd3.one ?q25a; (case q25a => k_extra "k_upd3")) | (refine' Upd3.two ?q25a; (case q25a => k_extra "k_upd3")) | (refine' Upd3.three ?q25a; (case q25a => k_extra "k_upd3")) | (refine' Upd3.skip ?q25n ?q25a; (case q25n => (refine ⟨?_, ?_, ?_⟩ <;> k_ne)); (case q25a => k_extra "k_upd3"))))
  (k_with "ne6" => ((refine ⟨?_, ?_, ?_, ?_, ?_, ?_⟩ <;> k_ne)))
  (k_with "hash4" => (exact HashFn.at4 (by assumption) (by k_asm) (by k_asm) (by k_mem) (by k_mem) (by k_mem) (by k_mem)))
  (k_with "nm_set" => ((intro rS pvS bsS rootS n6S nS oS odS TS DS h' tk' F' N' nrS hoS onS hpS; (try dsimp only at N' nrS); (have nr9 := nrS; simp only [AllNe, and_true] at nrS))))
  (k_with "call ref" => ((k_here; (with_reducible show wpAny _ _ (call (Value.ref 95) [Value.ref _, Value.bytes _ _, Value.bytes _ _]) _ _ _); k_dflt (refine' call_set ?q26B ?q26F ?q26X ?q26T ?q26N ?q26c1 ?q26c2 ?q26c3 ?q26c4 ?q26m1 ?q26m2 ?q26m3 ?q26m4 ?q26U ?q26ne ?q26r ?q26s1 ?q26s2 ?q26ky ?q26hp ?q26hp2 ?q26db ?q26H ?q26ot ?q26z ?q26zd ?q26lo ?q26ok ?q26hin ?_; (case q26F => k_asm); (case q26N => k_asm); (case q26B => k_asm); (case q26X => k_asm); (case q26T => k_asm); (case q26c1 => exact rfl); (case q26c2 => exact rfl); (case q26c3 => exact rfl); (case q26c4 => exact rfl); (case q26m1 => k_mem); (case q26m2 => k_mem); (case q26m3 => k_mem); (case q26H => k_extra "hash4"); (case q26ot => assumption); (case q26m4 => k_mem); (case q26U => k_extra "k_upd3"); (case q26ne => k_extra "ne6"); (case q26r => k_room); (case q26s1 => omega); (case q26s2 => omega); (case q26ky => assumption); (case q26hp => assumption); (case q26hp2 => assumption); (case q26db => assumption); (case q26z => omega); (case q26zd => omega); (case q26lo => assumption); (case q26ok => assumption); (case q26hin => assumption)); k_extra "nm_set"; (try k_sweep))))
  trivial
section
variable {prog : Program} {w : World} {A : Around} {s : Shared} {g : Heap} {R : Result → Shared → Prop} {fa ta x dx da : Addr} {ot odb : Obj} {T : List Oct} {D : List (Oct × Oct)} {key dflt root v : Array UInt8} {kt vt t1 t2 t3 t4 t5 t6 u1 u2 u3 u6 : Tok} {size : Nat} {f : Nat → Oct} {p : Nat}
set_option maxHeartbeats 4000000 in
theorem delete_ (S : Site w A g s.heap) (hL : Led g s.heap [(x, instObj 140 dx), (dx, dictOf (treeEs w t1 t2 t3 t4 t5 t6 (.int size u1) (.int (8 * size : Int) u2) (.bytes dflt u3) (.ref fa) (.ref da) (.bytes root u6)) 6), (da, odb), (ta, ot)])
    (hne : @Ne Nat x dx ∧ @Ne Nat x da ∧ @Ne Nat x ta ∧ @Ne Nat dx da ∧ @Ne Nat dx ta ∧ @Ne Nat da ta) (hroom : A.depth + 12 < recursionLimit) (hs1 : 1 ≤ size) (hs2 : size ≤ 2) (hkey : key.size = size) (hp : value (oInts key.toList) = (p : Int)) (hp2 : p < 2 ^ (8 * size)) (hdb : IsKB (bytesKind prog w) odb D)
    (H : HashFn g fa ta) (hot : IsTbl prog w ot T) (hsz : T.length ≤ 100000) (hszD : D.length ≤ 100000) (lo : (ta == sysModules) = false) (ok : DbOk T D)
    (hin : In T D (8 * size) f root.toList)
    (ret : ∀ r pvs bs n root' n6 ot' odb' T' D' h' tk', (∀ a o, g.get? a = some o → h'.get? a = some o) → (∀ a ∈ [(x, instObj 140 dx), (dx, dictOf (treeEs w t1 t2 t3 t4 t5 t6 (.int size u1) (.int (8 * size : Int) u2) (.bytes dflt u3) (.ref fa) (.ref da) (.bytes root' n6)) 6), (da, odb'), (ta, ot')], h'.get? a.1 = some a.2) →
      h'.get? r = some { cls := .type "tuple", data := .seq (List.toArray pvs) n } → Fresh g [(x, instObj 140 dx), (dx, instObj 140 dx), (da, odb), (ta, ot)] r → Octs pvs bs → Ons T' (upd f p dflt.toList) p (8 * size) bs → SetPost prog w T T' D D' f p dflt.toList size root' ot' odb' → R (.ok (.ret (.ref r))) { s with heap := h', toks := tk' }) :
    codeAny (model prog w) A (.call (.ref 109) ⟨[.ref x, .bytes key kt], []⟩) R s := by
  refine enterK (binds := [("self", .ref x), ("key", .bytes key kt)]) S hL (by k_is) (by k_is) (by omega) (BindsTo.of_eq rfl) (locs rfl) ?_ (by decide) rfl rfl rfl
  intro base fr dp un gd pp loose mean mg mb L h₁ eA B X TT F N l1
  subst eA
  simp only [Ar] at hroom
  subst hkey
  have hkr : key.size = key.size := rfl
  k_steps
  with_reducible rename Fr _ _ _ _ => F9
  with_reducible rename News _ _ _ _ => N9
  exact ret rS pvS bsS nS rootS n6S oS odS TS DS _ _ F9.keep (led4 (N9 _ (.tail _ (.head _))).1 (N9 _ (.tail _ (.tail _ (.head _)))).1 (N9 _ (.tail _ (.tail _ (.tail _ (.head _))))).1 (N9 _ (.tail _ (.tail _ (.tail _ (.tail _ (.head _)))))).1) (N9 _ (.head _)).1 ⟨(N9 _ (.head _)).2.2, by k_extra "allne"⟩ hoS onS hpS
set_option maxHeartbeats 4000000 in
theorem setitem_ (S : Site w A g s.heap) (hL : Led g s.heap [(x, instObj 140 dx), (dx, dictOf (treeEs w t1 t2 t3 t4 t5 t6 (.int size u1) (.int (8 * size : Int) u2) (.bytes dflt u3) (.ref fa) (.ref da) (.bytes root u6)) 6), (da, odb), (ta, ot)])
    (hne : @Ne Nat x dx ∧ @Ne Nat x da ∧ @Ne Nat x ta ∧ @Ne Nat dx da ∧ @Ne Nat dx ta ∧ @Ne Nat da ta) (hroom : A.depth + 12 < recursionLimit) (hs1 : 1 ≤ size) (hs2 : size ≤ 2) (hkey : key.size = size) (hp : value (oInts key.toList) = (p : Int)) (hp2 : p < 2 ^ (8 * size)) (hdb : IsKB (bytesKind prog w) odb D)
    (H : HashFn g fa ta) (hot : IsTbl prog w ot T) (hsz : T.length ≤ 100000) (hszD : D.length ≤ 100000) (lo : (ta == sysModules) = false) (ok : DbOk T D)
    (hin : In T D (8 * size) f root.toList)
    (ret : ∀  root' n6 ot' odb' T' D' h' tk', (∀ a o, g.get? a = some o → h'.get? a = some o) → (∀ a ∈ [(x, instObj 140 dx), (dx, dictOf (treeEs w t1 t2 t3 t4 t5 t6 (.int size u1) (.int (8 * size : Int) u2) (.bytes dflt u3) (.ref fa) (.ref da) (.bytes root' n6)) 6), (da, odb'), (ta, ot')], h'.get? a.1 = some a.2) →
       SetPost prog w T T' D D' f p v.toList size root' ot' odb' → R (.ok (.ret .none)) { s with heap := h', toks := tk' }) :
    codeAny (model prog w) A (.call (.ref 123) ⟨[.ref x, .bytes key kt, .bytes v vt], []⟩) R s := by
  refine enterK (binds := [("self", .ref x), ("key", .bytes key kt), ("value", .bytes v vt)]) S hL (by k_is) (by k_is) (by omega) (BindsTo.of_eq rfl) (locs rfl) ?_ (by decide) rfl rfl rfl
  intro base fr dp un gd pp loose mean mg mb L h₁ eA B X TT F N l1
  subst eA
  simp only [Ar] at hroom
  subst hkey
  have hkr : key.size = key.size := rfl
  k_steps
  with_reducible rename Fr _ _ _ _ => F9
  with_reducible rename News _ _ _ _ => N9
  exact ret rootS n6S oS odS TS DS _ _ F9.keep (led4 (N9 _ (.tail _ (.head _))).1 (N9 _ (.tail _ (.tail _ (.head _)))).1 (N9 _ (.tail _ (.tail _ (.tail _ (.head _))))).1 (N9 _ (.tail _ (.tail _ (.tail _ (.tail _ (.head _)))))).1) hpS
end
section
variable {prog : Program} {w : World} {A : Around} {s : Shared} {g : Heap} {E : Value → Shared → Prop} {L : Addr} {m : Str → Option Value} {base : Heap} {fr : List Env} {env : Env} {news : List (Addr × Obj)}
  {p : Program} {loose : List Str} {mean : ExcName → Option Value} {mg mb : Str → Option Value} {A₀ : Around} {Q : Value → Shared → Prop}
theorem call_delete {fa ta x dx da : Addr} {ot odb : Obj} {T : List Oct} {D : List (Oct × Oct)} {key dflt root : Array UInt8} {kt t1 t2 t3 t4 t5 t6 u1 u2 u3 u6 : Tok} {size : Nat} {f : Nat → Oct} {pp : Nat} {gn : Obj → Obj → Obj → List (Addr × Obj)} (B : Below A₀ base fr g) (F : Fr g L s.heap m) (X : (hd0.heap_1 w.params).In g) (TT : Top p loose mean mg mb g) (N : News g L s.heap news) (hA : A.frames = some (env :: fr)) (hf : env.frame = some L) (hke : env.scope.kind = .function) (hh : A.handled = none)
    (m1 : (x, instObj 140 dx) ∈ news) (m2 : (dx, dictOf (treeEs w t1 t2 t3 t4 t5 t6 (.int size u1) (.int (8 * size : Int) u2) (.bytes dflt u3) (.ref fa) (.ref da) (.bytes root u6)) 6) ∈ news) (m3 : (da, odb) ∈ news) (m4 : (ta, ot) ∈ news)
    (U : Upd3 dx da ta (dictOf (treeEs w t1 t2 t3 t4 t5 t6 (.int size u1) (.int (8 * size : Int) u2) (.bytes dflt u3) (.ref fa) (.ref da) (.bytes root u6)) 6) odb ot news gn)
    (hne : @Ne Nat x dx ∧ @Ne Nat x da ∧ @Ne Nat x ta ∧ @Ne Nat dx da ∧ @Ne Nat dx ta ∧ @Ne Nat da ta) (hroom : A.depth + 12 < recursionLimit) (hs1 : 1 ≤ size) (hs2 : size ≤ 2) (hkey : key.size = size) (hp : value (oInts key.toList) = (pp : Int)) (hp2 : pp < 2 ^ (8 * size)) (hdb : IsKB (bytesKind prog w) odb D)
    (H : HashFn (hideAll s.heap [x, dx, da, ta]) fa ta) (hot : IsTbl prog w ot T) (hsz : T.length ≤ 100000) (hszD : D.length ≤ 100000) (lo : (ta == sysModules) = false) (ok : DbOk T D)
    (hin : In T D (8 * size) f root.toList)
    (h : ∀ r pvs bs root' n6 n ot' odb' T' D' h' tk', Fr g L h' m → News g L h' ((r, { cls := .type "tuple", data := .seq (List.toArray pvs) n }) :: gn (dictOf (treeEs w t1 t2 t3 t4 t5 t6 (.int size u1) (.int (8 * size : Int) u2) (.bytes dflt u3) (.ref fa) (.ref da) (.bytes root' n6)) 6) odb' ot') →
      AllNe r (gn (dictOf [] 0) odb' ot') → Octs pvs bs → Ons T' (upd f pp dflt.toList) pp (8 * size) bs → SetPost prog w T T' D D' f pp dflt.toList size root' ot' odb' → Q (.ref r) { s with heap := h', toks := tk' }) :
    wpAny (model prog w) A (call (.ref 109) [.ref x, .bytes key kt]) Q E s := by
  have hl : ∀ q ∈ [(x, instObj 140 dx), (dx, dictOf (treeEs w t1 t2 t3 t4 t5 t6 (.int size u1) (.int (8 * size : Int) u2) (.bytes dflt u3) (.ref fa) (.ref da) (.bytes root u6)) 6), (da, odb), (ta, ot)], q ∈ news := led4 m1 m2 m3 m4
  obtain ⟨S, hL⟩ := site_of B F X TT (led := _) (fun q hq => N q (hl q hq)) hA hf hke hh
  refine wpAny_call (delete_ S hL hne hroom hs1 hs2 hkey hp hp2 hdb H hot hsz hszD lo ok hin fun r pvs bs n root' n6 ot' odb' T' D' h' tk' k kl hr fr0 o1 o2 e1 => ?_)
  obtain ⟨r1, r2⟩ := fresh_all N (led := [(x, instObj 140 dx), (dx, instObj 140 dx), (da, odb), (ta, ot)]) fr0
  have hx := kl (x, instObj 140 dx) (.head _)
  have hdx := kl _ (.tail _ (.head _))
  have hda := kl _ (.tail _ (.tail _ (.head _)))
  have hta := kl _ (.tail _ (.tail _ (.tail _ (.head _))))
  refine h r pvs bs root' n6 n ot' odb' T' D' h' tk' (fr_back F (fun q hq => N q (hl q hq)) k) (fun a ha => ?_) (U.addrs _ _ _ r2) o1 o2 e1
  rcases List.mem_cons.mp ha with rfl | ha
  · exact new_back F hr r1
  · refine news_upd3 N U k m2 m3 m4 (fun q hq n1 n2 n3 hm => ?_) hdx hda hta a ha
    simp only [List.map_cons, List.map_nil, List.mem_cons, List.not_mem_nil, or_false] at hm
    rcases hm with e | e | e | e
    · have h1 := (N q hq).1
      rw [e, (N _ m1).1] at h1
      rw [e, hx, Option.some.inj h1]
    · exact absurd e n1
    · exact absurd e n2
    · exact absurd e n3
end
section
variable {prog : Program} {w : World} {A : Around} {s : Shared} {g : Heap} {E : Value → Shared → Prop} {L : Addr} {m : Str → Option Value} {base : Heap} {fr : List Env} {env : Env} {news : List (Addr × Obj)}
  {p : Program} {loose : List Str} {mean : ExcName → Option Value} {mg mb : Str → Option Value} {A₀ : Around} {Q : Value → Shared → Prop}
theorem call_setitem {fa ta x dx da : Addr} {ot odb : Obj} {T : List Oct} {D : List (Oct × Oct)} {key dflt root v : Array UInt8} {kt vt t1 t2 t3 t4 t5 t6 u1 u2 u3 u6 : Tok} {size : Nat} {f : Nat → Oct} {pp : Nat} {gn : Obj → Obj → Obj → List (Addr × Obj)} (B : Below A₀ base fr g) (F : Fr g L s.heap m) (X : (hd0.heap_1 w.params).In g) (TT : Top p loose mean mg mb g) (N : News g L s.heap news) (hA : A.frames = some (env :: fr)) (hf : env.frame = some L) (hke : env.scope.kind = .function) (hh : A.handled = none)
    (m1 : (x, instObj 140 dx) ∈ news) (m2 : (dx, dictOf (treeEs w t1 t2 t3 t4 t5 t6 (.int size u1) (.int (8 * size : Int) u2) (.bytes dflt u3) (.ref fa) (.ref da) (.bytes root u6)) 6) ∈ news) (m3 : (da, odb) ∈ news) (m4 : (ta, ot) ∈ news)
    (U : Upd3 dx da ta (dictOf (treeEs w t1 t2 t3 t4 t5 t6 (.int size u1) (.int (8 * size : Int) u2) (.bytes dflt u3) (.ref fa) (.ref da) (.bytes root u6)) 6) odb ot news gn)
    (hne : @Ne Nat x dx ∧ @Ne Nat x da ∧ @Ne Nat x ta ∧ @Ne Nat dx da ∧ @Ne Nat dx ta ∧ @Ne Nat da ta) (hroom : A.depth + 12 < recursionLimit) (hs1 : 1 ≤ size) (hs2 : size ≤ 2) (hkey : key.size = size) (hp : value (oInts key.toList) = (pp : Int)) (hp2 : pp < 2 ^ (8 * size)) (hdb : IsKB (bytesKind prog w) odb D)
    (H : HashFn (hideAll s.heap [x, dx, da, ta]) fa ta) (hot : IsTbl prog w ot T) (hsz : T.length ≤ 100000) (hszD : D.length ≤ 100000) (lo : (ta == sysModules) = false) (ok : DbOk T D)
    (hin : In T D (8 * size) f root.toList)
    (h : ∀ root' n6 ot' odb' T' D' h' tk', Fr g L h' m → News g L h' (gn (dictOf (treeEs w t1 t2 t3 t4 t5 t6 (.int size u1) (.int (8 * size : Int) u2) (.bytes dflt u3) (.ref fa) (.ref da) (.bytes root' n6)) 6) odb' ot') →
      SetPost prog w T T' D D' f pp v.toList size root' ot' odb' → Q .none { s with heap := h', toks := tk' }) :
    wpAny (model prog w) A (call (.ref 123) [.ref x, .bytes key kt, .bytes v vt]) Q E s := by
  have hl : ∀ q ∈ [(x, instObj 140 dx), (dx, dictOf (treeEs w t1 t2 t3 t4 t5 t6 (.int size u1) (.int (8 * size : Int) u2) (.bytes dflt u3) (.ref fa) (.ref da) (.bytes root u6)) 6), (da, odb), (ta, ot)], q ∈ news := led4 m1 m2 m3 m4
  obtain ⟨S, hL⟩ := site_of B F X TT (led := _) (fun q hq => N q (hl q hq)) hA hf hke hh
  refine wpAny_call (setitem_ S hL hne hroom hs1 hs2 hkey hp hp2 hdb H hot hsz hszD lo ok hin fun root' n6 ot' odb' T' D' h' tk' k kl e1 => ?_)
  have hx := kl (x, instObj 140 dx) (.head _)
  have hdx := kl _ (.tail _ (.head _))
  have hda := kl _ (.tail _ (.tail _ (.head _)))
  have hta := kl _ (.tail _ (.tail _ (.tail _ (.head _))))
  refine h root' n6 ot' odb' T' D' h' tk' (fr_back F (fun q hq => N q (hl q hq)) k) (fun a ha => ?_) e1
  · refine news_upd3 N U k m2 m3 m4 (fun q hq n1 n2 n3 hm => ?_) hdx hda hta a ha
    simp only [List.map_cons, List.map_nil, List.mem_cons, List.not_mem_nil, or_false] at hm
    rcases hm with e | e | e | e
    · have h1 := (N q hq).1
      rw [e, (N _ m1).1] at h1
      rw [e, hx, Option.some.inj h1]
    · exact absurd e n1
    · exact absurd e n2
    · exact absurd e n3
end
theorem lines_s15_3 : True := by
  (k_with "call ref" => ((k_here; (with_reducible show wpAny _ _ (call (Value.ref 109) [Value.ref _, Value.bytes _ _]) _ _ _); k_dflt (refine' call_delete ?q27B ?q27F ?q27X ?q27T ?q27N ?q27c1 ?q27c2 ?q27c3 ?q27c4 ?q27m1 ?q27m2 ?q27m3 ?q27m4 ?q27U ?q27ne ?q27r ?q27s1 ?q27s2 ?q27ky ?q27hp ?q27hp2 ?q27db ?q27H ?q27ot ?q27z ?q27zd ?q27lo ?q27ok ?q27hin ?_; (case q27F => k_asm); (case q27N => k_asm); (case q27B => k_asm); (case q27X => k_asm); (case q27T => k_asm); (case q27c1 => exact rfl); (case q27c2 => exact rfl); (case q27c3 => exact rfl); (case q27c4 => exact rfl); (case q27m1 => k_mem); (case q27m2 => k_mem); (case q27m3 => k_mem); (case q27H => k_extra "hash4"); (case q27ot => assumption); (case q27m4 => k_mem); (case q27U => k_extra "k_upd3"); (case q27ne => k_extra "ne6"); (case q27r => k_room); (case q27s1 => omega); (case q27s2 => omega); (case q27ky => assumption); (case q27hp => assumption); (case q27hp2 => assumption); (case q27db => assumption); (case q27z => omega); (case q27zd => omega); (case q27lo => assumption); (case q27ok => assumption); (case q27hin => assumption)); k_extra "nm_set"; (try k_sweep))))
  (k_with "nm_setitem" => ((intro rootS n6S oS odS TS DS h' tk' F' N' hpS; (try dsimp only at N'))))
  (k_with "call ref" => ((k_here; (with_reducible show wpAny _ _ (call (Value.ref 123) [Value.ref _, Value.bytes _ _, Value.bytes _ _]) _ _ _); k_dflt (refine' call_setitem ?q28B ?q28F ?q28X ?q28T ?q28N ?q28c1 ?q28c2 ?q28c3 ?q28c4 ?q28m1 ?q28m2 ?q28m3 ?q28m4 ?q28U ?q28ne ?q28r ?q28s1 ?q28s2 ?q28ky ?q28hp ?q28hp2 ?q28db ?q28H ?q28ot ?q28z ?q28zd ?q28lo ?q28ok ?q28hin ?_; (case q28F => k_asm); (case q28N => k_asm); (case q28B => k_asm); (case q28X => k_asm); (case q28T => k_asm); (case q28c1 => exact rfl); (case q28c2 => exact rfl); (case q28c3 => exact rfl); (case q28c4 => exact rfl); (case q28m1 => k_mem); (case q28m2 => k_mem); (case q28m3 => k_mem); (case q28H => k_extra "hash4"); (case q28ot => assumption); (case q28m4 => k_mem); (case q28U => k_extra "k_upd3"); (case q28ne => k_extra "ne6"); (case q28r => k_room); (case q28s1 => omega); (case q28s2 => omega); (case q28ky => assumption); (case q28hp => assumption); (case q28hp2 => assumption); (case q28db => assumption); (case q28z => omega); (case q28zd => omega); (case q28lo => assumption); (case q28ok => assumption); (case q28hin => assumption)); k_extra "nm_setitem"; (try k_sweep))))
  trivial
section
variable {prog : Program} {w : World} {A : Around} {s : Shared} {g : Heap} {R : Result → Shared → Prop} {fa ta x dx da : Addr} {ot odb : Obj} {T : List Oct} {D : List (Oct × Oct)} {key dflt root v : Array UInt8} {kt vt t1 t2 t3 t4 t5 t6 u1 u2 u3 u6 : Tok} {size : Nat} {f : Nat → Oct} {p : Nat}
set_option maxHeartbeats 4000000 in
theorem delitem_ (S : Site w A g s.heap) (hL : Led g s.heap [(x, instObj 140 dx), (dx, dictOf (treeEs w t1 t2 t3 t4 t5 t6 (.int size u1) (.int (8 * size : Int) u2) (.bytes dflt u3) (.ref fa) (.ref da) (.bytes root u6)) 6), (da, odb), (ta, ot)])
    (hne : @Ne Nat x dx ∧ @Ne Nat x da ∧ @Ne Nat x ta ∧ @Ne Nat dx da ∧ @Ne Nat dx ta ∧ @Ne Nat da ta) (hroom : A.depth + 15 < recursionLimit) (hs1 : 1 ≤ size) (hs2 : size ≤ 2) (hkey : key.size = size) (hp : value (oInts key.toList) = (p : Int)) (hp2 : p < 2 ^ (8 * size)) (hdb : IsKB (bytesKind prog w) odb D)
    (H : HashFn g fa ta) (hot : IsTbl prog w ot T) (hsz : T.length ≤ 100000) (hszD : D.length ≤ 100000) (lo : (ta == sysModules) = false) (ok : DbOk T D)
    (hin : In T D (8 * size) f root.toList)
    (ret : ∀  root' n6 ot' odb' T' D' h' tk', (∀ a o, g.get? a = some o → h'.get? a = some o) → (∀ a ∈ [(x, instObj 140 dx), (dx, dictOf (treeEs w t1 t2 t3 t4 t5 t6 (.int size u1) (.int (8 * size : Int) u2) (.bytes dflt u3) (.ref fa) (.ref da) (.bytes root' n6)) 6), (da, odb'), (ta, ot')], h'.get? a.1 = some a.2) →
       SetPost prog w T T' D D' f p dflt.toList size root' ot' odb' → R (.ok (.ret .none)) { s with heap := h', toks := tk' }) :
    codeAny (model prog w) A (.call (.ref 130) ⟨[.ref x, .bytes key kt], []⟩) R s := by
  refine enterK (binds := [("self", .ref x), ("key", .bytes key kt)]) S hL (by k_is) (by k_is) (by omega) (BindsTo.of_eq rfl) (locs rfl) ?_ (by decide) rfl rfl rfl
  intro base fr dp un gd pp loose mean mg mb L h₁ eA B X TT F N l1
  subst eA
  simp only [Ar] at hroom
  subst hkey
  have hkr : key.size = key.size := rfl
  k_steps
  with_reducible rename Fr _ _ _ _ => F9
  with_reducible rename News _ _ _ _ => N9
  exact ret rootS n6S oS odS TS DS _ _ F9.keep (led4 (N9 _ (.tail _ (.head _))).1 (N9 _ (.tail _ (.tail _ (.head _)))).1 (N9 _ (.tail _ (.tail _ (.tail _ (.head _))))).1 (N9 _ (.tail _ (.tail _ (.tail _ (.tail _ (.head _)))))).1) hpS
end
section
variable {prog : Program} {w : World} {A : Around} {s : Shared} {g : Heap} {E : Value → Shared → Prop} {L : Addr} {m : Str → Option Value} {base : Heap} {fr : List Env} {env : Env} {news : List (Addr × Obj)}
  {p : Program} {loose : List Str} {mean : ExcName → Option Value} {mg mb : Str → Option Value} {A₀ : Around} {Q : Value → Shared → Prop}
theorem call_delitem {fa ta x dx da : Addr} {ot odb : Obj} {T : List Oct} {D : List (Oct × Oct)} {key dflt root : Array UInt8} {kt t1 t2 t3 t4 t5 t6 u1 u2 u3 u6 : Tok} {size : Nat} {f : Nat → Oct} {pp : Nat} {gn : Obj → Obj → Obj → List (Addr × Obj)} (B : Below A₀ base fr g) (F : Fr g L s.heap m) (X : (hd0.heap_1 w.params).In g) (TT : Top p loose mean mg mb g) (N : News g L s.heap news) (hA : A.frames = some (env :: fr)) (hf : env.frame = some L) (hke : env.scope.kind = .function) (hh : A.handled = none)
    (m1 : (x, instObj 140 dx) ∈ news) (m2 : (dx, dictOf (treeEs w t1 t2 t3 t4 t5 t6 (.int size u1) (.int (8 * size : Int) u2) (.bytes dflt u3) (.ref fa) (.ref da) (.bytes root u6)) 6) ∈ news) (m3 : (da, odb) ∈ news) (m4 : (ta, ot) ∈ news)
    (U : Upd3 dx da ta (dictOf (treeEs w t1 t2 t3 t4 t5 t6 (.int size u1) (.int (8 * size : Int) u2) (.bytes dflt u3) (.ref fa) (.ref da) (.bytes root u6)) 6) odb ot news gn)
    (hne : @Ne Nat x dx ∧ @Ne Nat x da ∧ @Ne Nat x ta ∧ @Ne Nat dx da ∧ @Ne Nat dx ta ∧ @Ne Nat da ta) (hroom : A.depth + 15 < recursionLimit) (hs1 : 1 ≤ size) (hs2 : size ≤ 2) (hkey : key.size = size) (hp : value (oInts key.toList) = (pp : Int)) (hp2 : pp < 2 ^ (8 * size)) (hdb : IsKB (bytesKind prog w) odb D)
    (H : HashFn (hideAll s.heap [x, dx, da, ta]) fa ta) (hot : IsTbl prog w ot T) (hsz : T.length ≤ 100000) (hszD : D.length ≤ 100000) (lo : (ta == sysModules) = false) (ok : DbOk T D)
    (hin : In T D (8 * size) f root.toList)
    (h : ∀ root' n6 ot' odb' T' D' h' tk', Fr g L h' m → News g L h' (gn (dictOf (treeEs w t1 t2 t3 t4 t5 t6 (.int size u1) (.int (8 * size : Int) u2) (.bytes dflt u3) (.ref fa) (.ref da) (.bytes root' n6)) 6) odb' ot') →
      SetPost prog w T T' D D' f pp dflt.toList size root' ot' odb' → Q .none { s with heap := h', toks := tk' }) :
    wpAny (model prog w) A (call (.ref 130) [.ref x, .bytes key kt]) Q E s := by
  have hl : ∀ q ∈ [(x, instObj 140 dx), (dx, dictOf (treeEs w t1 t2 t3 t4 t5 t6 (.int size u1) (.int (8 * size : Int) u2) (.bytes dflt u3) (.ref fa) (.ref da) (.bytes root u6)) 6), (da, odb), (ta, ot)], q ∈ news := led4 m1 m2 m3 m4
  obtain ⟨S, hL⟩ := site_of B F X TT (led := _) (fun q hq => N q (hl q hq)) hA hf hke hh
  refine wpAny_call (delitem_ S hL hne hroom hs1 hs2 hkey hp hp2 hdb H hot hsz hszD lo ok hin fun root' n6 ot' odb' T' D' h' tk' k kl e1 => ?_)
  have hx := kl (x, instObj 140 dx) (.head _)
  have hdx := kl _ (.tail _ (.head _))
  have hda := kl _ (.tail _ (.tail _ (.head _)))
  have hta := kl _ (.tail _ (.tail _ (.tail _ (.head _))))
  refine h root' n6 ot' odb' T' D' h' tk' (fr_back F (fun q hq => N q (hl q hq)) k) (fun a ha => ?_) e1
  · refine news_upd3 N U k m2 m3 m4 (fun q hq n1 n2 n3 hm => ?_) hdx hda hta a ha
    simp only [List.map_cons, List.map_nil, List.mem_cons, List.not_mem_nil, or_false] at hm
    rcases hm with e | e | e | e
    · have h1 := (N q hq).1
      rw [e, (N _ m1).1] at h1
      rw [e, hx, Option.some.inj h1]
    · exact absurd e n1
    · exact absurd e n2
    · exact absurd e n3
end
theorem lines_s15_4 : True := by
  (k_with "call ref" => ((k_here; (with_reducible show wpAny _ _ (call (Value.ref 130) [Value.ref _, Value.bytes _ _]) _ _ _); k_dflt (refine' call_delitem ?q29B ?q29F ?q29X ?q29T ?q29N ?q29c1 ?q29c2 ?q29c3 ?q29c4 ?q29m1 ?q29m2 ?q29m3 ?q29m4 ?q29U ?q29ne ?q29r ?q29s1 ?q29s2 ?q29ky ?q29hp ?q29hp2 ?q29db ?q29H ?q29ot ?q29z ?q29zd ?q29lo ?q29ok ?q29hin ?_; (case q29F => k_asm); (case q29N => k_asm); (case q29B => k_asm); (case q29X => k_asm); (case q29T => k_asm); (case q29c1 => exact rfl); (case q29c2 => exact rfl); (case q29c3 => exact rfl); (case q29c4 => exact rfl); (case q29m1 => k_mem); (case q29m2 => k_mem); (case q29m3 => k_mem); (case q29H => k_extra "hash4"); (case q29ot => assumption); (case q29m4 => k_mem); (case q29U => k_extra "k_upd3"); (case q29ne => k_extra "ne6"); (case q29r => k_room); (case q29s1 => omega); (case q29s2 => omega); (case q29ky => assumption); (case q29hp => assumption); (case q29hp2 => assumption); (case q29db => assumption); (case q29z => omega); (case q29zd => omega); (case q29lo => assumption); (case q29ok => assumption); (case q29hin => assumption)); k_extra "nm_setitem"; (try k_sweep))))
  trivial
end -- S15
section -- S16
theorem lines_s16_1 : True := by
  w_top off
  k_with_none
  (k_with "exec For Name Call cons nil" => (refine stop ?_))
  (k_with "exec For Name Call" => (refine stop ?_))
  (k_with "pyIter ref" => (refine stop ?_))
  (k_with "k_room" => (((try simp only [depth_under_make, depth_under_kw, depth_in1, depth_deeper, depth_caller]); omega)))
  (k_with "compareOp NotEq int int" => (refine ne_same ?_))
  (k_with "call ref" => ((k_here; (with_reducible show wpAny _ _ (call (Value.ref _) [Value.bytes _ _, Value.str _ _]) _ _ _); k_dflt (refine' from_big ?q6N ?q6m ?q6l ?q6p ?_; (case q6N => k_asm); (case q6m => k_mem); (case q6l => omega); (case q6p => assumption)); intro t' k')))
  (k_with "z cj" => (first | with_reducible assumption | exact And.left (by with_reducible assumption) | exact And.left (And.right (by with_reducible assumption)) | exact And.left (And.right (And.right (by with_reducible assumption))) | exact And.left (And.right (And.right (And.right (by with_reducible assumption)))) | exact And.left (And.right (And.right (And.right (And.right (by with_reducible assumption))))) | exact And.left (And.right (And.right (And.right (And.right (And.right (by with_reducible assumption)))))) | exact And.left (And.right (And.right (And.right (And.right (And.right (And.right (by with_reducible assumption))))))) | exact And.left (And.right (And.right (And.right (And.right (And.right (And.right (And.right (by with_reducible assumption)))))))) | exact And.right (by with_reducible assumption) | exact And.right (And.right (by with_reducible assumption)) | exact And.right (And.right (And.right (by with_reducible assumption))) | exact And.right (And.right (And.right (And.right (by with_reducible assumption)))) | exact And.right (And.right (And.right (And.right (And.right (by with_reducible assumption))))) | exact And.right (And.right (And.right (And.right (And.right (And.right (by with_reducible assumption)))))) | exact And.right (And.right (And.right (And.right (And.right (And.right (And.right (by with_reducible assumption)))))))))
  (k_with "z ne1" => (first | k_extra "z cj" | (refine Ne.symm ?_; k_extra "z cj") | exact AllNe.at1 (by with_reducible assumption) (by k_mem) | exact AllNe.at2 (by with_reducible assumption) (by k_mem) | omega))
  (k_with "k_ne" => ((refine PySem.W.neN ?_; (try dsimp only); k_extra "z ne1")))
  (k_with "execs cons" => (((with_reducible show wpAny _ _ (execs (Stmt.Assign _ _ _ :: _) _) _ _ _); refine execsGen fun P8 hP8 => ?_)))
  (k_with "execs cons" => (((with_reducible show wpAny _ _ (execs (Stmt.Expr _ _ :: _) _) _ _ _); refine execsGen fun P8 hP8 => ?_)))
  (k_with "execs cons" => (((with_reducible show wpAny _ _ (execs (Stmt.AugAssign _ _ _ _ :: _) _) _ _ _); refine execsGen fun P8 hP8 => ?_)))
  (k_with "FinQ" => ((refine finOut (by with_reducible assumption) ?_; (try dsimp only))))
  (k_with "call ref" => ((k_here; (with_reducible show wpAny _ _ (call (Value.ref 34) [Value.bytes _ _]) _ _ _); k_dflt (refine' call_valid_bytes ?q7B ?q7F ?q7X ?q7T ?q7N ?q7c1 ?q7c2 ?q7c3 ?q7c4 ?q7r ?_; (case q7F => k_asm); (case q7N => k_asm); (case q7B => k_asm); (case q7X => k_asm); (case q7T => k_asm); (case q7c1 => exact rfl); (case q7c2 => exact rfl); (case q7c3 => exact rfl); (case q7c4 => exact rfl); (case q7r => k_room)); intro h' tk' F' N'; (try k_sweep))))
  (k_with "call ref" => ((k_here; (with_reducible show wpAny _ _ (call (Value.ref 41) [Value.bytes _ _, Value.int _ _]) _ _ _); k_dflt (refine' call_valid_length ?q8B ?q8F ?q8X ?q8T ?q8N ?q8c1 ?q8c2 ?q8c3 ?q8c4 ?q8r ?q8z ?q8n ?_; (case q8F => k_asm); (case q8N => k_asm); (case q8B => k_asm); (case q8X => k_asm); (case q8T => k_asm); (case q8c1 => exact rfl); (case q8c2 => exact rfl); (case q8c3 => exact rfl); (case q8c4 => exact rfl); (case q8r => k_room); (case q8z => omega); (case q8n => omega)); intro h' tk' F' N'; (try k_sweep))))
  (k_with "getMethod type:int" => ((k_here; k_dflt (refine' KFB.getm ?q9kfbF ?q9kfbN ?q9kfbX (find_fb _) ?_; (case q9kfbF => k_asm); (case q9kfbN => k_asm); (case q9kfbX => k_asm); k_whole; intro x' h' F' N' l1; (try k_lt l1); (try k_sweep)))))
  (k_with "eval Name" => ((k_here; k_dflt (refine' nameX_L ?q10F ?q10v ?_ ?q10a ?q10b; (case q10a => rfl); (case q10b => rfl); (case q10F => k_asm); (case q10v => assumption); k_whole))))
  (k_with "subscriptTail" => ((k_here; (with_reducible show wpAny _ _ (subscriptTail _ _ (Value.ref _) (Value.bytes _ _)) _ _ _); k_dflt (refine' kb_item ?q11N ?q11p ?q11d (bk_is _ _) ?q11l ?_; (case q11N => k_asm); (case q11p => k_mem); (case q11d => assumption); (case q11l => assumption); (intro b' t' hb')))))
  (k_with "subscriptTail" => ((k_here; (with_reducible show wpAny _ _ (subscriptTail _ (Expr.Slice none _ none _) (Value.bytes _ _) (Value.ref _)) _ _ _); (with_reducible rename Fr _ _ _ _ => F'); (with_reducible rename News _ _ _ _ => N'); (refine cut_lo (s := ⟨_, _, _, _, _⟩) F' N' (by assumption) (by assumption) (by assumption) ?_); intro _ _ _ _ _ _ _)))
  (k_with "subscriptTail" => ((k_here; (with_reducible show wpAny _ _ (subscriptTail _ (Expr.Slice _ none none _) (Value.bytes _ _) (Value.ref _)) _ _ _); (with_reducible rename Fr _ _ _ _ => F'); (with_reducible rename News _ _ _ _ => N'); (refine cut_hi (s := ⟨_, _, _, _, _⟩) F' N' (by assumption) (by assumption) (by assumption) ?_); intro _ _ _ _ _ _ _)))
  (k_with "binaryOp BitAnd int int" => ((k_here; refine and_bit (by assumption) (fun hbit hpos => ?_) (fun hbit => ?_))))
  (k_with "loadName" => ((k_here; k_dflt (refine' ldn ?q12F ?q12v ?_ ?q12a ?q12b; (case q12a => rfl); (case q12b => rfl); (case q12F => k_asm); (case q12v => assumption); k_whole))))
  (k_with "truthy int" => ((refine truthy_pos (by assumption) ?_)))
  (k_with "hash1" => (exact HashFn.at1 (by assumption) (by k_asm) (by k_asm) (by k_mem)))
  (k_with "callWith ref" => ((k_here; k_dflt (refine' callWith_F ?q13k1 ?_; (case q13k1 => exact HashFn.fnAt (by assumption) (by k_asm)); k_whole))))
  (k_with "FnAt" => (exact HashFn.fnAt (by assumption) (by k_asm)))
  (k_with "And" => (((with_reducible show FnAt _ _ ∧ _); refine ⟨HashFn.fnAt (by assumption) (by k_asm), ?_⟩; try dsimp only [List.nil_append, List.cons_append])))
  (k_with "nm_m10_1" => (intro bH tH h' tk' oH TH F' N' hxH hbH hlH hotH))
  (k_with "nm_m10_2" => ((try dsimp only at N')))
  (k_with "call ref" => ((k_here; (with_reducible show wpAny _ _ (call (Value.ref _) [Value.bytes _ _]) _ _ _); k_dflt (refine' call_hash ?q14B ?q14F ?q14X ?q14T ?q14N ?q14c1 ?q14c2 ?q14c3 ?q14c4 ?q14H ?q14ot ?q14U ?q14z ?q14r ?q14lo ?_; (case q14F => k_asm); (case q14N => k_asm); (case q14B => k_asm); (case q14X => k_asm); (case q14T => k_asm); (case q14c1 => exact rfl); (case q14c2 => exact rfl); (case q14c3 => exact rfl); (case q14c4 => exact rfl); (case q14H => k_extra "hash1"); (case q14ot => assumption); (case q14U => k_updF); (case q14z => omega); (case q14r => k_room); (case q14lo => assumption)); k_extra "nm_m10_1"; k_extra "nm_m10_2"; (try k_sweep))))
  (k_with "call ref" => ((k_here; (with_reducible show wpAny _ _ (call (Value.ref 34) [Value.bytes _ _]) _ _ _); k_dflt (refine' call_valid_bytes ?q7B ?q7F ?q7X ?q7T ?q7N ?q7c1 ?q7c2 ?q7c3 ?q7c4 ?q7r ?_; (case q7F => k_asm); (case q7N => k_asm); (case q7B => k_asm); (case q7X => k_asm); (case q7T => k_asm); (case q7c1 => exact rfl); (case q7c2 => exact rfl); (case q7c3 => exact rfl); (case q7c4 => exact rfl); (case q7r => k_room)); intro h' tk' F' N'; (try k_sweep))))
  (k_with "nm_m10_3" => (intro rG qG bvsG vG bsG nG n2G h' tk' F' N' hrG hqG hqrG hoG hsG hvG))
  (k_with "nm_m10_4" => ((have hrG9 := hrG; have hqG9 := hqG; simp only [AllNe, and_true] at hrG hqG)))
  (k_with "call ref" => ((k_here; (with_reducible show wpAny _ _ (call (Value.ref 88) [Value.ref _, Value.bytes _ _]) _ _ _); k_dflt (refine' call_get ?q15B ?q15F ?q15X ?q15T ?q15N ?q15c1 ?q15c2 ?q15c3 ?q15c4 ?q15m1 ?q15m2 ?q15m3 ?q15ne ?q15r ?q15s1 ?q15s2 ?q15ky ?q15hp ?q15hp2 ?q15db ?q15hin ?_; (case q15F => k_asm); (case q15N => k_asm); (case q15B => k_asm); (case q15X => k_asm); (case q15T => k_asm); (case q15c1 => exact rfl); (case q15c2 => exact rfl); (case q15c3 => exact rfl); (case q15c4 => exact rfl); (case q15m1 => k_mem); (case q15m2 => k_mem); (case q15m3 => k_mem); (case q15ne => (refine ⟨?_, ?_, ?_⟩ <;> k_ne)); (case q15r => k_room); (case q15s1 => omega); (case q15s2 => omega); (case q15ky => assumption); (case q15hp => assumption); (case q15hp2 => assumption); (case q15db => assumption); (case q15hin => assumption)); k_extra "nm_m10_3"; k_extra "nm_m10_4"; (try k_sweep))))
  (k_with "nm_m10_5" => ((intro DR h' tk' F' N' l1; (try k_lt l1))))
  (k_with "call type:reversed" => ((k_here; (with_reducible show wpAny _ _ (call (Value.type _) [Value.ref _]) _ _ _); k_dflt (refine' reversed_tup ?q16F ?q16N ?q16m ?q16z ?_; (case q16F => k_asm); (case q16N => k_asm); (case q16m => k_mem); (case q16z => assumption)); k_extra "nm_m10_5"; (try k_sweep))))
  (k_with "nm_m10_6" => (intro h' oS F' N' hdS))
  (k_with "nm_m10_7" => ((try dsimp only at N')))
  (k_with "setItem ref bytes" => ((k_here; (with_reducible show wpAny _ _ (setItem (Value.ref _) (Value.bytes _ _) (Value.bytes _ _)) _ _ _); k_dflt (refine' kb_set ?q17F ?q17N ?q17U ?q17d (bk_is _ _) ?q17z ?_; (case q17F => k_asm); (case q17N => k_asm); (case q17U => k_updF); (case q17d => assumption); (case q17z => (simp only [sizeLine_eq]; omega)); (k_extra "nm_m10_6"); k_extra "nm_m10_7"))))
  (k_with "nm_m10_8" => (intro dA tA kA hdA))
  (k_with "binaryOp Add bytes bytes" => ((k_here; (with_reducible show wpAny _ _ (binaryOp Operator.Add (Value.bytes _ _) (Value.bytes _ _)) _ _ _); refine add_octs (by assumption) (by assumption) ?_; k_extra "nm_m10_8")))
  (k_with "nm_m10_9" => (intro tA kA))
  (k_with "inplaceOp LShift int int" => ((k_here; refine shl_pow (by assumption) (by omega) ?_; k_extra "nm_m10_9")))
  (k_with "allne" => ((simp only [AllNe, and_true]; (repeat' apply And.intro) <;> k_extra "z ne1")))
  (k_with "nm_m10_10" => ((intro DT h' tk' F' N' l1; (try k_lt l1))))
  (k_with "call type:tuple" => ((k_here; (with_reducible show wpAny _ _ (call (Value.type _) [Value.ref _]) _ _ _); k_dflt (refine' tuple_rev ?q18hh ?q18F ?q18N ?q18m ?q18c ?q18d ?q18ne ?q18z ?_; (case q18hh => exact rfl); (case q18F => k_asm); (case q18N => k_asm); (case q18m => k_mem); (case q18c => exact rfl); (case q18d => exact rfl); (case q18ne => k_extra "allne"); (case q18z => assumption)); k_extra "nm_m10_10"; (try k_sweep))))
  trivial
/-- the row of blank trees -/
def Blk (T : List Oct) (d : Oct) (n : Nat) (vs : List Value) : Prop := vs.length = n ∧ ∀ i, i < n → ∃ b t, vs[i]? = some (.bytes b t) ∧ Tr T i (cst d) b.toList
theorem Blk.ext {T T' : List Oct} {d : Oct} {n k : Nat} {vs : List Value} (h : Blk T d n vs) (e : Ext k T T') : Blk T' d n vs := ⟨h.1, fun i hi => let ⟨b, t, x, y⟩ := h.2 i hi; ⟨b, t, x, y.ext e⟩⟩
theorem Blk.one {T : List Oct} {d : Oct} {b : Array UInt8} {t : Tok} (h : hsh T d = some b.toList) : Blk T d 1 [.bytes b t] := ⟨rfl, fun i hi => by
  have : i = 0 := by omega
  subst this
  exact ⟨b, t, rfl, h⟩⟩
theorem Blk.snoc {T T' : List Oct} {d : Oct} {n : Nat} {vs : List Value} {b c : Array UInt8} {t u : Tok} (h : Blk T d (n + 1) (vs ++ [.bytes c u])) (e : Ext 1 T T') (hb : hsh T' (c.toList ++ c.toList) = some b.toList) : Blk T' d (n + 2) ((vs ++ [.bytes c u]) ++ [.bytes b t]) := by
  have hn : vs.length = n := by have := h.1; simp at this; exact this
  obtain ⟨c', u', hc, ht⟩ := h.2 n (by omega)
  have e1 : (vs ++ [Value.bytes c u])[n]? = some (.bytes c u) := by rw [← hn]; simp
  rw [e1] at hc
  cases hc
  refine ⟨by simp [hn], fun i hi => ?_⟩
  by_cases q : i = n + 1
  · subst q
    refine ⟨b, t, by rw [← hn]; simp, ?_⟩
    exact ⟨c.toList, c.toList, ht.ext e, ht.ext e, hb⟩
  · obtain ⟨x, y, z, w⟩ := h.2 i (by omega)
    exact ⟨x, y, by rw [List.getElem?_append_left (by simp [hn]; omega)]; exact z, w.ext e⟩
theorem listItems_neg {prog : Program} {w : World} {A : Around} {E : Value → Shared → Prop} {s : Shared} {g : Heap} {L l : Addr} {news : List (Addr × Obj)} {value slice : PySem.Expr} {pre : List Value} {x : Value} {n : Nat} {t : Tok} {Q : Value → Shared → Prop} (N : News g L s.heap news) (hm : (l, listOf (pre ++ [x]).toArray n) ∈ news) (hsz : pre.length ≤ 1000)
    (h : Q x s) (hs : subscripted slice false (.ref l) (.int (-1) t) = operate [.ref l, .int (-1) t] (getItem (.ref l) (.int (-1) t)) := by with_unfolding_all rfl) : wpAny (model prog w) A (subscriptTail value slice (.ref l) (.int (-1) t)) Q E s := by
  have hl : s.heap.IsList l (pre ++ [x]).toArray := ⟨_, (N _ hm).1, rfl, n, rfl⟩
  have sz : (pre ++ [x]).toArray.size = pre.length + 1 := by simp
  have e : ((-1 : Int) + ((pre ++ [x]).toArray.size : Nat)).toNat = pre.length := by rw [sz]; omega
  refine tail_any hl.typeIs slot_list_getitem.lookup (wpAny_getItem_list_neg hl (by decide) (by rw [sz]; omega) (by decide) (by rw [e]; simp) h) hs
theorem lines_s16_2 : True := by
  (k_with "subscriptTail" => ((k_here; (with_reducible show wpAny _ _ (subscriptTail _ _ (Value.ref _) (Value.int (-1) _)) _ _ _); k_dflt (refine' listItems_neg ?q30N ?q30m ?q30z ?_; (case q30N => k_asm); (case q30m => k_mem); (case q30z => assumption)))))
  trivial
section
variable {prog : Program} {w : World} {A : Around} {s : Shared} {g : Heap} {R : Result → Shared → Prop} {fa ta : Addr} {ot : Obj} {T : List Oct} {dflt : Array UInt8} {u1 u3 : Tok} {d : Nat}
set_option maxHeartbeats 4000000 in
theorem blanks_ (S : Site w A g s.heap) (hL : Led g s.heap [(ta, ot)]) (hroom : A.depth + 4 < recursionLimit) (hd2 : d ≤ 256)
    (H : HashFn g fa ta) (hot : IsTbl prog w ot T) (hsz : T.length ≤ 100000) (lo : (ta == sysModules) = false)
    (ret : ∀ l vs n ot' T' h' tk', (∀ a o, g.get? a = some o → h'.get? a = some o) → h'.get? ta = some ot' → h'.get? l = some (listOf (List.toArray vs) n) → Fresh g [(ta, ot)] l → Ext (d + 1) T T' → IsTbl prog w ot' T' → Blk T' dflt.toList (d + 1) vs → R (.ok (.ret (.ref l))) { s with heap := h', toks := tk' }) :
    codeAny (model prog w) A (.call (.ref 165) ⟨[.int (d : Int) u1, .bytes dflt u3, .ref fa], []⟩) R s := by
  refine enterK (binds := [("depth", .int (d : Int) u1), ("default", .bytes dflt u3), ("hashing", .ref fa)]) S hL (by k_is) (by k_is) (by omega) (BindsTo.of_eq rfl) (locs rfl) ?_ (by decide) rfl rfl rfl
  intro base fr dp un gd pp loose mean mg mb L h₁ eA B X TT F N l1
  subst eA
  simp only [Ar] at hroom
  have hszH : T.length ≤ 1000000 := by omega
  k_steps
  unfold Stop
  refine For_invV g (by rfl) (by rfl) ?_
  k_steps
  unfold Stop
  with_reducible rename Fr _ _ _ _ => F1
  with_reducible rename News _ _ _ _ => N1
  with_reducible rename IsRange _ _ _ _ _ _ _ _ => hr1
  refine pick1 N1 fun l hl => ?_
  subst hl
  refine iter_upto (n := d) (fun i m nx => ∃ pre c u n ot' T', nx = [(l, listOf (pre ++ [.bytes c u]).toArray n), (ta, ot')] ∧
    m "row" = some (.ref l) ∧ m "hashing" = some (.ref fa) ∧ IsTbl prog w ot' T' ∧ Ext (i + 1) T T' ∧ Blk T' dflt.toList (i + 1) (pre ++ [.bytes c u]) ∧ c.toList.length = 32) rfl hr1 (by omega) F1 N1 ?_ ?_ ?_
  · exact ⟨[], bH, tH, _, _, TH, rfl, rfl, rfl, hotH, hxH, Blk.one hbH, hlH⟩
  · intro i t m₁ news₁ h tk I oI hi hJ hne9 F2 N3
    refine wpGen fun P9 E9 hP9 hE9 => ?_
    try dsimp only
    obtain ⟨pre, c, u, n, ot', T', rfl, hm1, hm2, hot', hx', hbl', hc32⟩ := hJ
    simp only [AllNe, and_true] at hne9
    have hT9 := hx'.len
    have hp9 := hbl'.1
    have hsz9 : T'.length ≤ 1000000 := by omega
    have hpl : pre.length ≤ 1000 := by simp at hp9; omega
    k_steps
    with_reducible rename Fr _ _ _ _ => F9
    with_reducible rename News _ _ _ _ => N9
    rw [hdA] at hbH
    exact hP9 _ _ (show TurnNext _ _ _ _ _ _ _ from ⟨_, _, _, _, rfl, F9, fun q hq => N9 q hq, by simp only [AllNe, and_true]; exact hne9, pre ++ [.bytes c u], bH, tH, n + 1, _, TH, (by simp only [List.push_toArray]), hm1, hm2, hotH, hx'.trans hxH, hbl'.snoc (b := bH) (t := tH) hxH hbH, hlH⟩)
  · intro m₁ news₁ h tk hJ F2 N3
    refine wpGenE fun E8 hE8 => ?_
    obtain ⟨pre, c, u, n, ot', T', rfl, hm1, hm2, hot', hx', hbl', hc32⟩ := hJ
    k_steps
    with_reducible rename Fr _ _ _ _ => F9
    with_reducible rename News _ _ _ _ => N9
    have ne9 := ne_of_cls N9 (.tail _ (.head _)) (.head _) (by rw [hot'.cls]; simp)
    exact ret l _ _ _ _ _ _ F9.keep (N9 _ (.tail _ (.head _))).1 (N9 _ (.head _)).1 ⟨(N9 _ (.head _)).2.2, ne9, trivial⟩ hx' hot' hbl'
end
end -- S16
section -- S17
theorem lines_s17_1 : True := by
  w_top off
  k_with_none
  (k_with "exec For Name Call cons nil" => (refine stop ?_))
  (k_with "exec For Name Call" => (refine stop ?_))
  (k_with "pyIter ref" => (refine stop ?_))
  (k_with "k_room" => (((try simp only [depth_under_make, depth_under_kw, depth_in1, depth_deeper, depth_caller]); omega)))
  (k_with "compareOp NotEq int int" => (refine ne_same ?_))
  (k_with "call ref" => ((k_here; (with_reducible show wpAny _ _ (call (Value.ref _) [Value.bytes _ _, Value.str _ _]) _ _ _); k_dflt (refine' from_big ?q6N ?q6m ?q6l ?q6p ?_; (case q6N => k_asm); (case q6m => k_mem); (case q6l => omega); (case q6p => assumption)); intro t' k')))
  (k_with "z cj" => (first | with_reducible assumption | exact And.left (by with_reducible assumption) | exact And.left (And.right (by with_reducible assumption)) | exact And.left (And.right (And.right (by with_reducible assumption))) | exact And.left (And.right (And.right (And.right (by with_reducible assumption)))) | exact And.left (And.right (And.right (And.right (And.right (by with_reducible assumption))))) | exact And.left (And.right (And.right (And.right (And.right (And.right (by with_reducible assumption)))))) | exact And.left (And.right (And.right (And.right (And.right (And.right (And.right (by with_reducible assumption))))))) | exact And.left (And.right (And.right (And.right (And.right (And.right (And.right (And.right (by with_reducible assumption)))))))) | exact And.right (by with_reducible assumption) | exact And.right (And.right (by with_reducible assumption)) | exact And.right (And.right (And.right (by with_reducible assumption))) | exact And.right (And.right (And.right (And.right (by with_reducible assumption)))) | exact And.right (And.right (And.right (And.right (And.right (by with_reducible assumption))))) | exact And.right (And.right (And.right (And.right (And.right (And.right (by with_reducible assumption)))))) | exact And.right (And.right (And.right (And.right (And.right (And.right (And.right (by with_reducible assumption)))))))))
  (k_with "z ne1" => (first | k_extra "z cj" | (refine Ne.symm ?_; k_extra "z cj") | exact AllNe.at1 (by with_reducible assumption) (by k_mem) | exact AllNe.at2 (by with_reducible assumption) (by k_mem) | omega))
  (k_with "k_ne" => ((refine PySem.W.neN ?_; (try dsimp only); k_extra "z ne1")))
  (k_with "execs cons" => (((with_reducible show wpAny _ _ (execs (Stmt.Assign _ _ _ :: _) _) _ _ _); refine execsGen fun P8 hP8 => ?_)))
  (k_with "execs cons" => (((with_reducible show wpAny _ _ (execs (Stmt.Expr _ _ :: _) _) _ _ _); refine execsGen fun P8 hP8 => ?_)))
  (k_with "execs cons" => (((with_reducible show wpAny _ _ (execs (Stmt.AugAssign _ _ _ _ :: _) _) _ _ _); refine execsGen fun P8 hP8 => ?_)))
  (k_with "FinQ" => ((refine finOut (by with_reducible assumption) ?_; (try dsimp only))))
  trivial
theorem mod_pow (x : Int) (size : Nat) : ∃ k : Nat, x.fmod (2 ^ (8 * (size : Int)).toNat) = ((k : Nat) : Int) ∧ k < 2 ^ (8 * size) := by
  have e : (8 * (size : Int)).toNat = 8 * size := by omega
  rw [e]
  have hc : ((2 : Int) ^ (8 * size)) = ((2 ^ (8 * size) : Nat) : Int) := by simp
  rw [hc]
  have hpos : (0 : Int) < ((2 ^ (8 * size) : Nat) : Int) := by
    have := Nat.two_pow_pos (8 * size); omega
  have h0 := Int.fmod_nonneg_of_pos x hpos
  have h1 := Int.fmod_lt_of_pos x hpos
  exact ⟨(x.fmod ((2 ^ (8 * size) : Nat) : Int)).toNat, by omega, by omega⟩
section
variable {prog : Program} {w : World} {A : Around} {s : Shared} {g : Heap} {R : Result → Shared → Prop} {n : Int} {u1 u3 : Tok} {size : Nat}
set_option maxHeartbeats 4000000 in
theorem number_ (S : Site w A g s.heap) (hroom : A.depth + 6 < recursionLimit) (hs1 : 1 ≤ size) (hs2 : size ≤ 2)
    (ret : ∀ k t h' tk', (∀ a o, g.get? a = some o → h'.get? a = some o) → k < 2 ^ (8 * size) → R (.ok (.ret (.int ((k : Nat) : Int) t))) { s with heap := h', toks := tk' }) :
    codeAny (model prog w) A (.call (.ref 158) ⟨[.int n u1, .int (8 * size : Int) u3], []⟩) R s := by
  refine enterK (led := []) (binds := [("number", .int n u1), ("depth", .int (8 * size : Int) u3)]) S (fun p hp => nomatch hp) (by k_is) (by k_is) (by omega) (BindsTo.of_eq rfl) (locs rfl) ?_ (by decide) rfl rfl rfl
  intro base fr dp un gd pp loose mean mg mb L h₁ eA B X TT F N l1
  subst eA
  refine wpGenE fun E8 hE8 => ?_
  have hp256 : 2 ^ 8 ≤ 2 ^ (8 * size) := Nat.pow_le_pow_right (by decide) (by omega)
  simp only [Ar] at hroom
  k_steps
  all_goals (with_reducible rename Fr _ _ _ _ => F9)
  · exact ret 0 _ _ _ F9.keep (by omega)
  · exact ret 1 _ _ _ F9.keep (by omega)
  · exact ret 2 _ _ _ F9.keep (by omega)
  · exact ret 3 _ _ _ F9.keep (by omega)
  · exact ret 127 _ _ _ F9.keep (by omega)
  · exact ret 128 _ _ _ F9.keep (by omega)
  · exact ret 129 _ _ _ F9.keep (by omega)
  · exact ret 255 _ _ _ F9.keep (by omega)
  · obtain ⟨k, hk, hlt⟩ := mod_pow (n.fdiv 112) size
    have z := fun t9 tk9 => ret k t9 _ tk9 F9.keep hlt
    rw [← hk] at z
    exact z _ _
end
end -- S17
section -- S18
/-! a dict filtered by its keys -/
theorem stored_list {prog : Program} {w : World} {K : Type} [DecidableEq K] {knd : KeyKind prog w K} {FK : Value → K → Prop} {FV : Value → Value → Prop} {l : List Value} {kvs : List (K × Value)} (S : StoredAll FK FV l kvs)
    : ∀ ks : List (K × Value), (ks.map (·.1)).Nodup → Paired (fun v (p : K × Value) => (∀ k, FK v k → k = p.1) ∧ ∀ y, FV v y → y = p.2) l ks → kvs = ks := by
  induction S with
  | nil => intro ks _ h; cases h; rfl
  | @snoc l kvs v k y S hk hv ih =>
    intro ks hn hp
    obtain ⟨ks0, p, rfl, hp0, hp1⟩ : ∃ ks0 p, ks = ks0 ++ [p] ∧ Paired (fun v (p : K × Value) => (∀ k, FK v k → k = p.1) ∧ ∀ y, FV v y → y = p.2) l ks0 ∧ ((∀ k, FK v k → k = p.1) ∧ ∀ y, FV v y → y = p.2) := by
      clear ih S hn
      generalize hl : l ++ [v] = l' at hp
      induction hp generalizing l with
      | nil => simp at hl
      | @cons a b l1 l2 hab hr ihp =>
        cases l with
        | nil =>
          simp only [List.nil_append, List.cons.injEq] at hl
          obtain ⟨rfl, rfl⟩ := hl
          cases hr
          exact ⟨[], b, rfl, .nil, hab⟩
        | cons a' l =>
          simp only [List.cons_append, List.cons.injEq] at hl
          obtain ⟨rfl, rfl⟩ := hl
          obtain ⟨ks0, p, rfl, h1, h2⟩ := ihp rfl
          exact ⟨b :: ks0, p, rfl, .cons hab h1, h2⟩
    have hn0 : (ks0.map (·.1)).Nodup := by
      rw [List.map_append] at hn
      exact (List.nodup_append.mp hn).1
    rw [ih ks0 hn0 hp0, hp1.1 k hk, hp1.2 y hv]
    unfold stored
    rw [if_neg]
    intro hany
    obtain ⟨q, hq, hqe⟩ := List.any_eq_true.mp hany
    rw [List.map_append] at hn
    exact (List.nodup_append.mp hn).2.2 q.1 (List.mem_map_of_mem hq) p.1 (by simp) (of_decide_eq_true hqe)
theorem Rel.filter {K : Type} (pz : K → Bool) : ∀ {kvs : List (K × Value)} {D : List (K × Oct)}, Rel kvs D → Rel (kvs.filter fun p => pz p.1) (D.filter fun p => pz p.1)
  | [], D, h => by
    have : D = [] := by cases D with | nil => rfl | cons _ _ => simp [Rel] at h
    subst this; rfl
  | p :: r, D, h => by
    cases D with
    | nil => simp [Rel] at h
    | cons q E =>
      simp only [Rel, List.map_cons, List.cons.injEq, Prod.mk.injEq] at h
      have ih := Rel.filter pz (kvs := r) (D := E) h.2
      rw [List.filter_cons, List.filter_cons, ← h.1.1]
      by_cases hz : pz p.1 = true
      · rw [if_pos hz, if_pos hz]
        unfold Rel at *
        simp only [List.map_cons, ih, h.1.1, h.1.2]
      · rw [if_neg hz, if_neg hz]; exact ih
def pzV (pz : Int → Bool) : Value → Bool
  | .int k _ => pz k
  | _ => false
theorem pzV_is {prog : Program} {w : World} {pz : Int → Bool} {k : Int} {v : Value} (h : (intKind prog w).is k v = true) : pzV pz v = pz k := by
  obtain ⟨t, rfl⟩ := Value.isInt_shape h; rfl
theorem valueAt_mem {K : Type} [DecidableEq K] {k : K} {x : Value} : ∀ {kvs : List (K × Value)}, (kvs.map (·.1)).Nodup → (k, x) ∈ kvs → valueAt kvs k = some x
  | [], _, h => by cases h
  | q :: r, hn, hm => by
    rw [List.map_cons, List.nodup_cons] at hn
    rcases List.mem_cons.mp hm with rfl | hm
    · simp [valueAt]
    · have hne : ¬ q.1 = k := fun e => hn.1 (e ▸ List.mem_map_of_mem (f := (·.1)) hm)
      have := valueAt_mem hn.2 hm
      simpa [valueAt, List.find?_cons, hne] using this
theorem paired_filter {prog : Program} {w : World} (pz : Int → Bool) {FK : Value → Int → Prop} {FV : Value → Value → Prop} (kvs0 : List (Int × Value)) (hFK : ∀ v k, FK v k → (intKind prog w).is k v = true) (hFV : ∀ v y, FV v y → ∃ k, (intKind prog w).is k v = true ∧ valueAt kvs0 k = some y) (hn : (kvs0.map (·.1)).Nodup) :
    ∀ {vs : List Value} {kvs : List (Int × Value)}, (∀ p ∈ kvs, p ∈ kvs0) → vs.length = kvs.length → (∀ (j : Nat) v, vs[j]? = some v → ∃ k x, kvs[j]? = some (k, x) ∧ (intKind prog w).is k v = true) →
      Paired (fun v (p : Int × Value) => (∀ k, FK v k → k = p.1) ∧ ∀ y, FV v y → y = p.2) (vs.filter (pzV pz)) (kvs.filter fun p => pz p.1)
  | [], [], _, _, _ => .nil
  | [], _ :: _, _, h, _ => by simp at h
  | _ :: _, [], _, h, _ => by simp at h
  | v :: vs, p :: kvs, hs, hl, h => by
    have h0 := h 0 v rfl
    obtain ⟨k, x, e, hk⟩ := h0
    simp only [List.getElem?_cons_zero, Option.some.injEq] at e
    subst e
    have ih := paired_filter pz kvs0 hFK hFV hn (vs := vs) (kvs := kvs) (fun q hq => hs q (.tail _ hq)) (by simpa using hl) (fun j u hu => by simpa using h (j + 1) u (by simpa using hu))
    rw [List.filter_cons, List.filter_cons, pzV_is hk]
    by_cases hz : pz k = true
    · rw [if_pos hz, if_pos hz]
      refine .cons ⟨fun k' hk' => (intKind prog w).inj _ _ _ (hFK _ _ hk') hk, fun y hy => ?_⟩ ih
      obtain ⟨k', h1, h2⟩ := hFV _ _ hy
      have : k' = k := (intKind prog w).inj _ _ _ h1 hk
      subst this
      have h3 : valueAt kvs0 k' = some x := by
        have hm := hs (k', x) (.head _)
        exact valueAt_mem hn hm
      rw [h3] at h2
      exact (Option.some.inj h2).symm
    · rw [if_neg hz, if_neg hz]; exact ih
theorem newDict_strong {M : Model} {A : Around} {E : Value → Shared → Prop} {s : Shared} {Q : Value → Shared → Prop} (h : wpAny M A newDict (fun a s' => a = .ref s.heap.objs.size → Q a s') E s) : wpAny M A newDict Q E s := fun Γ p hΓ => by
  have h' := h Γ p hΓ
  exact h' rfl
section
variable {prog : Program} {w : World} {A : Around} {E : Value → Shared → Prop} {env : Env} {s : Shared} {K : Type} [DecidableEq K]
theorem dictComp_new {kx vx iter : Expr} {x : Str} {px : Pos} {ifs : List Expr} {scope : Scope} {cl : List (Str × Addr)} {pos : Pos} {Q : Value → Shared → Prop} (knd : KeyKind prog w K) (p : Value → Bool)
    (FK : Value → K → Prop) (FV : Value → Value → Prop)
    (hclos : closureFor scope env = pure cl) (hcell : ∀ y ∈ scope.names, y.2 ≠ .cell) (hkind : scope.kind = .function)
    (hnames : ∀ y ∈ scope.names, y.2 = .local → scope.names.lookup y.1 = some .local) (hx : scope.names.lookup x = some .local)
    (h : wpAny (model prog w) A (eval iter env) (fun xv s₁ => wpAny (model prog w) A (pyIter xv) (fun it s₂ => ∃ I fp wr n P St, it = .ref I ∧ Walks prog w A I fp wr n P St ∧ n ≤ sizeLine ∧ St 0 s₂.heap ∧ (∀ b ∈ fp, b < s₂.heap.objs.size) ∧
      QuietOnCD knd A env scope cl x ifs kx vx wr P p FK FV s₂ ∧
      (∀ h' tk kvs (vs : List Value), h'.DictOf knd s₂.heap.objs.size kvs → vs.length = n → (∀ (j : Nat) v, vs[j]? = some v → P j v) → StoredAll FK FV (vs.filter p) kvs →
        (∀ b o, b ∉ wr → s₂.heap.get? b = some o → h'.get? b = some o) → Q (.ref s₂.heap.objs.size) { s₂ with heap := h', toks := tk })) E s₁) E s)
    (hs : ∀ x, foldedSetIterable iter env x = pure x) :
    wpAny (model prog w) A (eval (.DictComp kx vx [⟨.Name x px, iter, ifs, 0⟩] scope pos) env) Q E s := by
  rw [arm_eval_DictComp]
  refine wpAny_comprehension_free (use := none) rfl hs hclos hkind hnames (wpAny_mono h (fun xv s₁ h₁ => wpAny_mono h₁ (fun it s₂ h₂ => ?_) fun _ _ e => e) fun _ _ e => e)
  obtain ⟨I, fp, wr, n, P, St, rfl, W, hsz, hst, hfp, hq, hQ⟩ := h₂
  refine newDict_strong (wpAny_mono (comp_block_walkCD (knd := knd) (RR := fun acc C r s' => acc = .ref s₂.heap.objs.size → compPost (model prog w) A E none Q acc C r s') W hsz p FK FV hcell hkind hx hst hfp hq ?_) (fun acc s₃ h₃ e => wpAny_mono h₃ (fun cenv s₄ h₄ => codeAny_mono h₄ fun r s' hr => hr e) fun _ _ q => q) fun _ _ q => q)
  intro D C h' tk m' kvs vs hD hC hDC hn hl hlen hP hF hk e
  have eD : D = s₂.heap.objs.size := by injection e
  subst eD
  exact ⟨m', hn, fun h'' hs'' => hQ h'' tk kvs vs (hl.extBut hs''.extBut hDC) hlen hP hF fun b o hbf e => hs''.extBut b o (by rintro rfl; rw [hC] at e; cases e) (hk b o hbf e)⟩
end
section
variable {prog : Program} {w : World} {A : Around} {E : Value → Shared → Prop} {env : Env} {s : Shared} {g : Heap} {L c D : Addr} {m : Str → Option Value} {news : List (Addr × Obj)} {od co : Obj} {Dk : List (Int × Oct)} {pz : Int → Bool}
/-- {x: d[x] for x in d if ..} -/
theorem dict_sub {x d : Str} {p1 p2 p3 p4 px pd pos : Pos} {ifs : List Expr} {scope : Scope} {cl : List (Str × Addr)} {Q : Value → Shared → Prop}
    (F : Fr g L s.heap m) (N : News g L s.heap news) (hh : A.handled = none) (hbig : g.NoLimit)
    (hclos : closureFor scope env = pure cl) (hcell : ∀ y ∈ scope.names, y.2 ≠ .cell) (hkind : scope.kind = .function)
    (hnames : ∀ y ∈ scope.names, y.2 = .local → scope.names.lookup y.1 = some .local) (hx : scope.names.lookup x = some .local)
    (hm : (D, od) ∈ news) (hd : IsKB (intKind prog w) od Dk) (lo : (D == sysModules) = false) (hsz : Dk.length ≤ 1000)
    (hdk : ∀ C, (compEnvC scope cl C env).kindOf d = some .cell) (hdc : cl.lookup d = some c) (hcm : (c, co) ∈ news) (hcd : co.data = .cell (some (.ref D)))
    (hbx : (x == ("__debug__" : Str)) = false) (hbd : (d == ("__debug__" : Str)) = false)
    (tests : ∀ C k t s₃ m₃ E', (k ∈ Dk.map (·.1)) → s₃.heap.Ns C m₃ → m₃ x = some (.int k t) → (∀ b o, s.heap.get? b = some o → s₃.heap.get? b = some o) →
      wpAny (model prog w) A (forIn ifs true fun c r => if r = true then do let ok ← isTrue c (compEnvC scope cl C env) (eval c (compEnvC scope cl C env)); pure (ForInStep.yield ok) else pure (ForInStep.yield r))
        (fun ok s₄ => ok = pz k ∧ Keeps s₃ s₄) E' s₃)
    (hit : wpAny (model prog w) A (eval (.Name d pd) env) (fun v s' => v = .ref D ∧ s' = s) E s)
    (h : ∀ N' h' o' tk, Fr g L h' m → News g L h' ((N', o') :: news) → (∀ p ∈ news, p.1 < N') → IsKB (intKind prog w) o' (Dk.filter fun p => pz p.1) → (N' == sysModules) = false → Q (.ref N') { s with heap := h', toks := tk })
    (hs : ∀ x, foldedSetIterable (.Name d pd) env x = pure x := by intro _; rfl) :
    wpAny (model prog w) A (eval (.DictComp (.Name x p1) (.Subscript (.Name d p2) (.Name x p3) p4) [⟨.Name x px, .Name d pd, ifs, 0⟩] scope pos) env) Q E s := by
  obtain ⟨kvs, hdo, hrel⟩ := hd
  have hlen : kvs.length ≤ 1000 := by rw [hrel.length]; exact hsz
  obtain ⟨es, ep, hxd, hdat, hk, hp, hn⟩ := id hdo
  have hDA : s.heap.DictAt (intKind prog w) D kvs ep := ⟨od, es, (N _ hm).1, hxd, hdat, hk, hp, hn⟩
  have hDlt : D < s.heap.objs.size := Heap.lt_size (N _ hm).1
  refine dictComp_new (intKind prog w) (pzV pz) (fun v k => (intKind prog w).is k v = true) (fun v y => ∃ k, (intKind prog w).is k v = true ∧ valueAt kvs k = some y) hclos hcell hkind hnames hx (wpAny_mono hit (fun xv s₁ e => ?_) fun _ _ e => e) hs
  obtain ⟨rfl, rfl⟩ := e
  refine wpAny_pyIter_dict lo hDA ?_
  have up : ∀ (s₃ : Shared), (∀ b o, b ∉ [s₁.heap.objs.size] → (s₁.heap.push { cls := .type "dict_keyiterator", data := .fields #[.ref D, .int 0 0, .int kvs.length 0, .int ep 0] }).get? b = some o → s₃.heap.get? b = some o) → ∀ b o, s₁.heap.get? b = some o → s₃.heap.get? b = some o :=
    fun s₃ hk b o e => hk b o (fun hm => by rcases List.mem_cons.mp hm with rfl | hm; exact Nat.lt_irrefl _ (Heap.lt_size e); cases hm) (Heap.get?_push_of_some _ e)
  refine ⟨s₁.heap.objs.size, _, _, kvs.length, _, _, rfl, Walks.dictKeys (knd := intKind prog w) hh _ D (Nat.ne_of_lt hDlt) kvs ep, by rw [sizeLine_eq]; omega, ⟨⟨_, Heap.get?_push_size _ rfl, rfl, rfl⟩, hDA.at' fun o e => Heap.get?_push_of_some _ e⟩, ?_, ⟨?_, ?_, ?_⟩, ?_⟩
  · intro b hb
    show b < (s₁.heap.push _).objs.size
    rw [Heap.size_push]
    rcases List.mem_cons.mp hb with rfl | hb
    · exact Nat.lt_succ_self _
    · rcases List.mem_cons.mp hb with rfl | hb
      · exact Nat.lt_succ_of_lt hDlt
      · cases hb
  · rintro C i v s₃ m₃ E' ⟨k, y, hky, hkv⟩ hn3 hm3 hk3
    obtain ⟨t, rfl⟩ := Value.isInt_shape hkv
    refine tests C k t s₃ m₃ E' ?_ hn3 hm3 (up s₃ hk3)
    rw [← hrel.keys]
    exact List.mem_map.mpr ⟨(k, y), List.mem_of_getElem? hky, rfl⟩
  · rintro C i v s₃ m₃ E' ⟨k, y, hky, hkv⟩ _ hn3 hm3 hk3
    exact wpAny_Name (wpAny_loadName_local (by simp [compEnvC, relabel, hkind]) (lookup_relabel_local hx) hn3 hm3 ⟨⟨k, hkv, hkv⟩, s₃.heap, s₃.toks, rfl, fun _ _ e => e⟩) hbx
  · rintro C i v s₃ m₃ E' ⟨k, y, hky, hkv⟩ _ hn3 hm3 hk3
    have hD3 : s₃.heap.DictOf (intKind prog w) D kvs := Heap.dictOf_iff.mpr ⟨od, up s₃ hk3 _ _ (N _ hm).1, hdo⟩
    have hval : valueAt kvs k = some y := valueAt_mem hn (List.mem_of_getElem? hky)
    refine wpAny_Subscript_Name slot_dict_getitem.lookup (wpAny_Name (wpAny_loadName_cell (by simp [compEnvC, relabel, hkind]) (hdk C) hdc ⟨co, up s₃ hk3 _ _ (N _ hcm).1, hcd⟩ ?_) hbd) (by intro _ _; rfl)
    refine wpAny_Name (wpAny_loadName_local (by simp [compEnvC, relabel, hkind]) (lookup_relabel_local hx) hn3 hm3 ⟨hD3.typeIs, ?_⟩) hbx
    exact wpAny_getItem_of hkv hD3.mapOf hval ⟨⟨k, hkv, hval⟩, s₃.heap, s₃.toks + 1, rfl, fun _ _ e => e⟩
  · intro h' tk kvs' vs hD' hlen' hP' hS' hk'
    have e := stored_list (knd := intKind prog w) hS' (kvs.filter fun p => pz p.1) (hn.sublist (List.Sublist.map _ List.filter_sublist)) (paired_filter pz kvs (fun v k h => h) (fun v y h => h) hn (fun q hq => hq) hlen' hP')
    subst e
    have keep : ∀ b o, s₁.heap.get? b = some o → h'.get? b = some o := up { s₁ with heap := h' } hk'
    obtain ⟨o', ho', hdo'⟩ := Heap.dictOf_iff.mp hD'
    have lt : ∀ q ∈ news, q.1 < (s₁.heap.push { cls := .type "dict_keyiterator", data := .fields #[.ref D, .int 0 0, .int kvs.length 0, .int ep 0] }).objs.size := fun q hq => by
      rw [Heap.size_push]; exact Nat.lt_succ_of_lt (Heap.lt_size (N q hq).1)
    have big : g.objs.size < (s₁.heap.push { cls := .type "dict_keyiterator", data := .fields #[.ref D, .int 0 0, .int kvs.length 0, .int ep 0] }).objs.size := by
      rw [Heap.size_push]; exact Nat.lt_succ_of_lt (Nat.lt_of_le_of_lt F.above F.ns.lt)
    refine h _ h' o' tk (F.keeps keep) (fun q hq => ?_) lt ⟨_, hdo', hrel.filter pz⟩ (beq_eq_false_iff_ne.mpr (Nat.ne_of_gt (Nat.lt_trans (modules_low hbig) big)))
    rcases List.mem_cons.mp hq with rfl | hq
    · refine ⟨ho', fun e => ?_, Heap.get?_none_of_le (Nat.le_of_lt big)⟩
      have := F.ns.lt
      rw [← e, Heap.size_push] at this
      exact absurd this (Nat.not_lt.mpr (Nat.le_succ _))
    · exact N.grown keep q hq
end
section
variable {prog : Program} {w : World} {A : Around} {E : Value → Shared → Prop} {env : Env} {s : Shared} {K : Type} [DecidableEq K]
theorem dictComp_assign {kx vx iter : Expr} {x y : Str} {px py : Pos} {ifs : List Expr} {scope : Scope} {cl : List (Str × Addr)} {pos spos : Pos} {Q : Flow → Shared → Prop} (knd : KeyKind prog w K) (p : Value → Bool)
    (FK : Value → K → Prop) (FV : Value → Value → Prop)
    (hsw : swapsWith (.DictComp kx vx [⟨.Name x px, iter, ifs, 0⟩] scope pos) (some (.Name y py)) spos.line env = pure true)
    (hclos : closureFor scope env = pure cl) (hcell : ∀ y ∈ scope.names, y.2 ≠ .cell) (hkind : scope.kind = .function)
    (hnames : ∀ y ∈ scope.names, y.2 = .local → scope.names.lookup y.1 = some .local) (hx : scope.names.lookup x = some .local)
    (hy : env.kindOf y = some .local) (hp : (env.scope.kind == .class || (env.scope.kind == .module && env.locals != env.globals)) = false)
    (h : wpAny (model prog w) A (eval iter env) (fun xv s₁ => wpAny (model prog w) A (pyIter xv) (fun it s₂ => ∃ I fp wr n P St m, it = .ref I ∧ Walks prog w A I fp wr n P St ∧ n ≤ sizeLine ∧ St 0 s₂.heap ∧ (∀ b ∈ fp, b < s₂.heap.objs.size) ∧ env.locals ∉ wr ∧ s₂.heap.Ns env.locals m ∧
      QuietOnCD knd A env scope cl x ifs kx vx wr P p FK FV s₂ ∧
      (∀ h' tk kvs (vs : List Value), h'.DictOf knd s₂.heap.objs.size kvs → vs.length = n → (∀ (j : Nat) v, vs[j]? = some v → P j v) → StoredAll FK FV (vs.filter p) kvs →
        h'.Ns env.locals (fun z => if z = y then some (.ref s₂.heap.objs.size) else m z) → (∀ b o, b ≠ env.locals → b ∉ wr → s₂.heap.get? b = some o → h'.get? b = some o) → Q .next { s₂ with heap := h', toks := tk })) E s₁) E s)
    (hs : ∀ x, foldedSetIterable iter env x = pure x) :
    wpAny (model prog w) A (exec (.Assign [.Name y py] (.DictComp kx vx [⟨.Name x px, iter, ifs, 0⟩] scope pos) spos) env) Q E s := by
  rw [exec_Assign_Name_used _ _ _ _ hsw]
  refine wpAny_bind (wpAny_standAt (wpAny_bind ?_))
  show wpAny _ A (do let _ ← comprehension (.DictComp kx vx [⟨.Name x px, iter, ifs, 0⟩] scope pos) scope env _ newDict false (eval iter env) (some (assign (.Name y py) env))) _ _ s
  refine wpAny_bind (wpAny_mono (wpAny_comprehension_free (use := some (assign (.Name y py) env)) (Q := fun _ s' => Q .next s') rfl hs hclos hkind hnames
    (wpAny_mono h (fun xv s₁ h₁ => wpAny_mono h₁ (fun it s₂ h₂ => ?_) fun _ _ e => e) fun _ _ e => e)) (fun _ s' hq => wpAny_pure (wpAny_pure hq)) fun _ _ e => e)
  obtain ⟨I, fp, wr, n, P, St, m, rfl, W, hsz, hst, hfp, hLf, hn, hq, hQ⟩ := h₂
  refine newDict_strong (wpAny_mono (comp_block_walkCD (knd := knd) (RR := fun acc C r s' => acc = .ref s₂.heap.objs.size → compPost (model prog w) A E (some (assign (.Name y py) env)) (fun _ s' => Q .next s') acc C r s') W hsz p FK FV hcell hkind hx hst hfp hq ?_) (fun acc s₃ h₃ e => wpAny_mono h₃ (fun cenv s₄ h₄ => codeAny_mono h₄ fun r s' hr => hr e) fun _ _ q => q) fun _ _ q => q)
  intro D C h' tk m' kvs vs hD hC hDC hnC hlD hlen hP hF hk e
  have eD : D = s₂.heap.objs.size := by injection e
  subst eD
  have hLC : env.locals ≠ C := by rintro rfl; obtain ⟨o, _, _, ho, _⟩ := hn; rw [hC] at ho; cases ho
  have hLD : env.locals ≠ s₂.heap.objs.size := fun q => by obtain ⟨o, _, _, ho, _⟩ := hn; rw [q, hD] at ho; cases ho
  show wpAny _ A (assign (.Name y py) env (.ref s₂.heap.objs.size)) _ _ _
  refine wpAny_assign_Name (wpAny_storeName_local hy (hn.at' fun o e => hk _ o hLf e) (fun h₂ hn₂ hs₂ => ?_) hp)
  refine ⟨m', hnC.sameBut hs₂ (Ne.symm hLC), fun h₃ hs₃ => ?_⟩
  exact hQ h₃ _ kvs vs ((hlD.extBut hs₂.extBut (Ne.symm hLD)).extBut hs₃.extBut hDC) hlen hP hF (hn₂.sameBut hs₃ hLC) fun b o hbL hbf e =>
    hs₃.extBut b o (by rintro rfl; rw [hC] at e; cases e) (hs₂.extBut b o hbL (hk b o hbf e))
end
section
variable {prog : Program} {w : World} {A : Around} {E : Value → Shared → Prop} {env : Env} {s : Shared} {g : Heap} {L c D : Addr} {m : Str → Option Value} {news : List (Addr × Obj)} {od co : Obj} {Dk : List (Int × Oct)} {pz : Int → Bool}
/-- y = {x: d[x] for x in d if ..} -/
theorem dict_sub_assign {x d y : Str} {p1 p2 p3 p4 px pd py pos spos : Pos} {ifs : List Expr} {scope : Scope} {cl : List (Str × Addr)} {Q : Flow → Shared → Prop}
    (F : Fr g L s.heap m) (N : News g L s.heap news) (hL : env.locals = L) (hh : A.handled = none) (hbig : g.NoLimit)
    (hsw : swapsWith (.DictComp (.Name x p1) (.Subscript (.Name d p2) (.Name x p3) p4) [⟨.Name x px, .Name d pd, ifs, 0⟩] scope pos) (some (.Name y py)) spos.line env = pure true)
    (hclos : closureFor scope env = pure cl) (hcell : ∀ y ∈ scope.names, y.2 ≠ .cell) (hkind : scope.kind = .function)
    (hnames : ∀ y ∈ scope.names, y.2 = .local → scope.names.lookup y.1 = some .local) (hx : scope.names.lookup x = some .local)
    (hy : env.kindOf y = some .local) (hp : (env.scope.kind == .class || (env.scope.kind == .module && env.locals != env.globals)) = false)
    (hm : (D, od) ∈ news) (hd : IsKB (intKind prog w) od Dk) (lo : (D == sysModules) = false) (hsz : Dk.length ≤ 1000)
    (hdk : ∀ C, (compEnvC scope cl C env).kindOf d = some .cell) (hdc : cl.lookup d = some c) (hcm : (c, co) ∈ news) (hcd : co.data = .cell (some (.ref D)))
    (hbx : (x == ("__debug__" : Str)) = false) (hbd : (d == ("__debug__" : Str)) = false)
    (tests : ∀ C k t s₃ m₃ E', (k ∈ Dk.map (·.1)) → s₃.heap.Ns C m₃ → m₃ x = some (.int k t) → (∀ b o, s.heap.get? b = some o → s₃.heap.get? b = some o) →
      wpAny (model prog w) A (forIn ifs true fun c r => if r = true then do let ok ← isTrue c (compEnvC scope cl C env) (eval c (compEnvC scope cl C env)); pure (ForInStep.yield ok) else pure (ForInStep.yield r))
        (fun ok s₄ => ok = pz k ∧ Keeps s₃ s₄) E' s₃)
    (hit : wpAny (model prog w) A (eval (.Name d pd) env) (fun v s' => v = .ref D ∧ s' = s) E s)
    (h : ∀ N' h' o' tk, Fr g L h' (fun z => if z = y then some (.ref N') else m z) → News g L h' ((N', o') :: news) → (∀ p ∈ news, p.1 < N') → IsKB (intKind prog w) o' (Dk.filter fun p => pz p.1) → (N' == sysModules) = false → Q .next { s with heap := h', toks := tk })
    (hs : ∀ x, foldedSetIterable (.Name d pd) env x = pure x) :
    wpAny (model prog w) A (exec (.Assign [.Name y py] (.DictComp (.Name x p1) (.Subscript (.Name d p2) (.Name x p3) p4) [⟨.Name x px, .Name d pd, ifs, 0⟩] scope pos) spos) env) Q E s := by
  subst hL
  obtain ⟨kvs, hdo, hrel⟩ := hd
  have hlen : kvs.length ≤ 1000 := by rw [hrel.length]; exact hsz
  obtain ⟨es, ep, hxd, hdat, hk, hpp, hn⟩ := id hdo
  have hDA : s.heap.DictAt (intKind prog w) D kvs ep := ⟨od, es, (N _ hm).1, hxd, hdat, hk, hpp, hn⟩
  have hDlt : D < s.heap.objs.size := Heap.lt_size (N _ hm).1
  refine dictComp_assign (intKind prog w) (pzV pz) (fun v k => (intKind prog w).is k v = true) (fun v y => ∃ k, (intKind prog w).is k v = true ∧ valueAt kvs k = some y) hsw hclos hcell hkind hnames hx hy hp (wpAny_mono hit (fun xv s₁ e => ?_) fun _ _ e => e) hs
  obtain ⟨rfl, rfl⟩ := e
  refine wpAny_pyIter_dict lo hDA ?_
  have up : ∀ (s₃ : Shared), (∀ b o, b ∉ [s₁.heap.objs.size] → (s₁.heap.push { cls := .type "dict_keyiterator", data := .fields #[.ref D, .int 0 0, .int kvs.length 0, .int ep 0] }).get? b = some o → s₃.heap.get? b = some o) → ∀ b o, s₁.heap.get? b = some o → s₃.heap.get? b = some o :=
    fun s₃ hk b o e => hk b o (fun hm => by rcases List.mem_cons.mp hm with rfl | hm; exact Nat.lt_irrefl _ (Heap.lt_size e); cases hm) (Heap.get?_push_of_some _ e)
  have Llt := F.ns.lt
  refine ⟨s₁.heap.objs.size, _, [s₁.heap.objs.size], kvs.length, _, _, m, rfl, Walks.dictKeys (knd := intKind prog w) hh _ D (Nat.ne_of_lt hDlt) kvs ep, by rw [sizeLine_eq]; omega, ⟨⟨_, Heap.get?_push_size _ rfl, rfl, rfl⟩, hDA.at' fun o e => Heap.get?_push_of_some _ e⟩, ?_, ?_, F.ns.push _, ⟨?_, ?_, ?_⟩, ?_⟩
  · intro b hb
    show b < (s₁.heap.push _).objs.size
    rw [Heap.size_push]
    rcases List.mem_cons.mp hb with rfl | hb
    · exact Nat.lt_succ_self _
    · rcases List.mem_cons.mp hb with rfl | hb
      · exact Nat.lt_succ_of_lt hDlt
      · cases hb
  · intro hmm
    rw [List.mem_singleton.mp hmm] at Llt
    exact Nat.lt_irrefl _ Llt
  · rintro C i v s₃ m₃ E' ⟨k, y, hky, hkv⟩ hn3 hm3 hk3
    obtain ⟨t, rfl⟩ := Value.isInt_shape hkv
    refine tests C k t s₃ m₃ E' ?_ hn3 hm3 (up s₃ hk3)
    rw [← hrel.keys]
    exact List.mem_map.mpr ⟨(k, y), List.mem_of_getElem? hky, rfl⟩
  · rintro C i v s₃ m₃ E' ⟨k, y, hky, hkv⟩ _ hn3 hm3 hk3
    exact wpAny_Name (wpAny_loadName_local (by simp [compEnvC, relabel, hkind]) (lookup_relabel_local hx) hn3 hm3 ⟨⟨k, hkv, hkv⟩, s₃.heap, s₃.toks, rfl, fun _ _ e => e⟩) hbx
  · rintro C i v s₃ m₃ E' ⟨k, y, hky, hkv⟩ _ hn3 hm3 hk3
    have hD3 : s₃.heap.DictOf (intKind prog w) D kvs := Heap.dictOf_iff.mpr ⟨od, up s₃ hk3 _ _ (N _ hm).1, hdo⟩
    have hval : valueAt kvs k = some y := valueAt_mem hn (List.mem_of_getElem? hky)
    refine wpAny_Subscript_Name slot_dict_getitem.lookup (wpAny_Name (wpAny_loadName_cell (by simp [compEnvC, relabel, hkind]) (hdk C) hdc ⟨co, up s₃ hk3 _ _ (N _ hcm).1, hcd⟩ ?_) hbd) (by intro _ _; rfl)
    refine wpAny_Name (wpAny_loadName_local (by simp [compEnvC, relabel, hkind]) (lookup_relabel_local hx) hn3 hm3 ⟨hD3.typeIs, ?_⟩) hbx
    exact wpAny_getItem_of hkv hD3.mapOf hval ⟨⟨k, hkv, hval⟩, s₃.heap, s₃.toks + 1, rfl, fun _ _ e => e⟩
  · intro h' tk kvs' vs' hD' hlen' hP' hS' hns hk'
    have e := stored_list (knd := intKind prog w) hS' (kvs.filter fun p => pz p.1) (hn.sublist (List.Sublist.map _ List.filter_sublist)) (paired_filter pz kvs (fun v k h => h) (fun v y h => h) hn (fun q hq => hq) hlen' hP')
    subst e
    have keep : ∀ b o, b ≠ env.locals → s₁.heap.get? b = some o → h'.get? b = some o := fun b o hb e => hk' b o hb (fun hm => by rcases List.mem_cons.mp hm with rfl | hm; exact Nat.lt_irrefl _ (Heap.lt_size e); cases hm) (Heap.get?_push_of_some _ e)
    obtain ⟨o', ho', hdo'⟩ := Heap.dictOf_iff.mp hD'
    have lt : ∀ q ∈ news, q.1 < (s₁.heap.push { cls := .type "dict_keyiterator", data := .fields #[.ref D, .int 0 0, .int kvs.length 0, .int ep 0] }).objs.size := fun q hq => by
      rw [Heap.size_push]; exact Nat.lt_succ_of_lt (Heap.lt_size (N q hq).1)
    have big : g.objs.size < (s₁.heap.push { cls := .type "dict_keyiterator", data := .fields #[.ref D, .int 0 0, .int kvs.length 0, .int ep 0] }).objs.size := by
      rw [Heap.size_push]; exact Nat.lt_succ_of_lt (Nat.lt_of_le_of_lt F.above F.ns.lt)
    refine h _ h' o' tk ⟨hns, fun b o e => keep b o (fun q => by rw [q, kts_self F] at e; cases e) (F.keep b o e), F.above⟩ (fun q hq => ?_) lt ⟨_, hdo', hrel.filter pz⟩ (beq_eq_false_iff_ne.mpr (Nat.ne_of_gt (Nat.lt_trans (modules_low hbig) big)))
    rcases List.mem_cons.mp hq with rfl | hq
    · refine ⟨ho', fun e => ?_, Heap.get?_none_of_le (Nat.le_of_lt big)⟩
      have := F.ns.lt
      rw [← e, Heap.size_push] at this
      exact absurd this (Nat.not_lt.mpr (Nat.le_succ _))
    · exact ⟨keep _ _ (N q hq).2.1 (N q hq).1, (N q hq).2⟩
end
end -- S18
section -- S19
section
variable {prog : Program} {w : World} {A : Around} {s : Shared} {g : Heap} {led : List (Addr × Obj)} {R : Result → Shared → Prop} {name qual : Str} {params : Arguments} {body : List Stmt} {scope : Scope} {dV kV doc pm cdv ct oc : Value} {an od : Option Addr} {osl : Array (Option Value)} {f : Addr} {args : Args} {binds : List (Str × Value)}
/-- into a def of the program that has cells -/
theorem enterKC (S : Site w A g s.heap) (hL : Led g s.heap led) (ho : (hd0.heap_1 w.params).lookup f = some ⟨oc, od, .func (fnOf name qual params body scope dV kV doc pm an cdv ct), osl⟩) (hcd : codeIn (hd0.heap_1 w.params) cdv qual = true) (hroom : A.depth < recursionLimit)
    (hbind : BindsTo s (fnOf name qual params body scope dV kV doc pm an cdv ct) args binds) (hkind : (binds.all fun y => scope.names.lookup y.1 == some .local || scope.names.lookup y.1 == some .cell) = true)
    (hnd : ((cellsFrom 0 scope.names []).map (·.1)).Nodup)
    (h : ∀ base fr dp un gd p loose mean mg mb L h₁ tk cells, A = Ar dp un gd fr → Below A base fr g → (hd0.heap_1 w.params).In g → Top p loose mean mg mb g → Fr g L h₁ (bindL (envOfC qual scope L f cdv).kindOf binds fun _ => none) → News g L h₁ (cells ++ led) →
      CellsAre (bindC (envOfC qual scope L f cdv).kindOf binds fun _ => none) (cellsFrom (L + 1) scope.names []) cells → (∀ q ∈ led, q.1 < L) →
      wpAny (model prog w) (A.deeper (envOfC qual scope L f cdv)) (execs body (envOfC qual scope L f cdv))
        (fun fl s' => R (.ok (.ret (match fl with | .ret v => v | _ => .none))) s')
        (fun e s' => wpAny (model prog w) (A.deeper (envOfC qual scope L f cdv)) (leaving (envOfC qual scope L f cdv) e) (fun _ s'' => R (.error e) s'') (fun e' s'' => R (.error e') s'') s')
        { s with heap := h₁, toks := tk })
    (hco : scope.isCoroutine = false) (hgen : scope.isGenerator = false) (hk : scope.kind = .function) : codeAny (model prog w) A (.call (.ref f) args) R s := by
  obtain ⟨base, fr, dp, un, gd, eA, B⟩ := S.lit
  obtain ⟨p, loose, mean, mg, mb, T⟩ := S.top
  refine codeAny_call_function hroom (S.sub _ _ (S.K _ _ ho)) rfl hco hgen rfl ((codeRec_of S.K hcd).keeps S.sub) (hbind _ _ _ _ ?_)
  refine wpAny_newFunctionEnv_cells hk (kindsX hkind _) fun env' he s' x => ?_
  subst he
  refine ⟨(T.nolimit.keeps S.sub).keeps x.toInCall.keep, codeAny_func ?_⟩
  obtain ⟨h₁, tk, rfl, _⟩ := x.done
  have hk₁ := x.toInCall.keep
  obtain ⟨cells, NC, Y⟩ := Cl.news (h₀ := s.heap) (Nat.le_refl _) fun n c hm => ⟨x.cell n c (lookup_of_mem_nodup (cellsFrom_names scope.names 0 (s.heap.objs.size + 1) [] [] rfl ▸ hnd) hm), x.above n c hm⟩
  refine h base fr dp un gd p loose mean mg mb s.heap.objs.size h₁ tk cells eA B S.K T ⟨x.toInCall.ns, fun b o e => hk₁ b o (S.sub b o e), Nat.le_of_eq S.size⟩ (fun p hp => ?_) Y (fun q hq => Heap.lt_size (hL q hq).1)
  rcases List.mem_append.mp hp with hp | hp
  · refine ⟨(NC p hp).1, (NC p hp).2.1, ?_⟩
    cases q : g.get? p.1 with
    | none => rfl
    | some o => have := S.sub _ _ q; rw [(NC p hp).2.2] at this; cases this
  · exact ⟨hk₁ _ _ (hL p hp).1, Nat.ne_of_lt (Heap.lt_size (hL p hp).1), (hL p hp).2⟩
end
/-! the law's own tree: what is found, and where -/
abbrev FdX := List (List Int × Addr × Value)
def fat (xs : FdX) (lo l : Nat) : Option Value := (atKey xs [(lo : Int), (l : Int)]).map (·.2)
theorem atKey_stored {K : Type} [DecidableEq K] (xs : List (K × Addr × Value)) (k j : K) (a : Addr) (v : Value) : (atKey (storedH xs k a v) j).map (·.2) = if j = k then some v else (atKey xs j).map (·.2) := by
  unfold storedH
  by_cases hs : (atKey xs k).isSome = true
  · rw [if_pos hs]
    induction xs with
    | nil => simp [atKey] at hs
    | cons x r ih =>
      by_cases hx : x.1 = k
      · subst hx
        by_cases hj : j = x.1
        · subst hj; simp [atKey, putAt]
        · have hj' : ¬ x.1 = j := fun e => hj e.symm
          rw [if_neg hj]
          by_cases hr : (atKey r x.1).isSome = true
          · have := ih hr
            rw [if_neg hj] at this
            simpa [atKey, putAt, List.find?_cons, hj'] using this
          · have hmap : r.map (putAt x.1 v) = r := by
              refine map_putAt_of_not_mem r x.1 v fun hm => hr ?_
              obtain ⟨y, hy, hye⟩ := List.mem_map.mp hm
              unfold atKey
              rw [Option.isSome_map, List.find?_isSome]
              exact ⟨y, hy, by simp [hye]⟩
            simp [atKey, putAt, List.find?_cons, hj', hmap]
      · have hs' : (atKey r k).isSome = true := by simpa [atKey, List.find?_cons, hx] using hs
        have := ih hs'
        by_cases hj : x.1 = j
        · have hjk : ¬ j = k := fun e => hx (hj.trans e)
          rw [if_neg hjk]
          have hpx : putAt k v x = x := if_neg hx
          simp [atKey, hpx, hj]
        · simpa [atKey, putAt, List.find?_cons, hx, hj] using this
  · rw [if_neg hs]
    have hn : atKey xs k = none := by
      cases q : atKey xs k with
      | none => rfl
      | some p => rw [q] at hs; simp at hs
    unfold atKey at *
    rw [List.find?_append]
    by_cases hj : j = k
    · subst hj
      rw [Option.map_eq_none_iff] at hn
      rw [hn]; simp
    · have hj' : ¬ k = j := fun e => hj e.symm
      rw [if_neg hj]
      cases q : xs.find? (fun x => decide (x.1 = j)) with
      | none => simp [hj']
      | some p => rfl
theorem fat_stored (xs : FdX) (lo l lo' l' : Nat) (a : Addr) (v : Value) : fat (storedH xs [(lo : Int), (l : Int)] a v) lo' l' = if lo' = lo ∧ l' = l then some v else fat xs lo' l' := by
  unfold fat
  rw [atKey_stored]
  by_cases h : lo' = lo ∧ l' = l
  · rw [if_pos h, if_pos (by rw [h.1, h.2])]
  · rw [if_neg h, if_neg]
    intro e
    simp only [List.cons.injEq, and_true] at e
    exact h ⟨by omega, by omega⟩
def Rng (low d lo l : Nat) : Prop := l ≤ d ∧ low ≤ lo ∧ lo + 2 ^ l ≤ low + 2 ^ d
def Abs (xs : FdX) (low d : Nat) : Prop := ∀ lo l, Rng low d lo l → fat xs lo l = none
def SameOut (xs xs' : FdX) (low d : Nat) : Prop := ∀ lo l, ¬ Rng low d lo l → fat xs' lo l = fat xs lo l
def Cov (T : List Oct) (dflt : Oct) (xs : FdX) (f : Nat → Oct) (low d : Nat) : Prop := ∀ l lo, Rng low d lo l → lo % 2 ^ l = 0 →
  (∃ b t, fat xs lo l = some (.bytes b t) ∧ Tr T l (sub f lo) b.toList) ∨ (fat xs lo l = none ∧ ∀ i, i < 2 ^ l → f (lo + i) = dflt)
theorem Cov.blank {T : List Oct} {dflt : Oct} {xs : FdX} {f : Nat → Oct} {low d : Nat} (h : ∀ i, i < 2 ^ d → f (low + i) = dflt) (ha : Abs xs low d) : Cov T dflt xs f low d := fun l lo hr _ => .inr ⟨ha _ _ hr, fun i hi => by
  obtain ⟨h1, h2, h3⟩ := hr
  have := h (lo - low + i) (by omega)
  rw [← this]; congr 1; omega⟩
theorem Cov.ext {T T' : List Oct} {n : Nat} {dflt : Oct} {xs : FdX} {f : Nat → Oct} {low d : Nat} (c : Cov T dflt xs f low d) (e : Ext n T T') : Cov T' dflt xs f low d := fun l lo hr hm => by
  rcases c l lo hr hm with ⟨b, t, h1, h2⟩ | h
  · exact .inl ⟨b, t, h1, h2.ext e⟩
  · exact .inr h
theorem Rng.left {low d lo l : Nat} (h : Rng low d lo l) : Rng low (d + 1) lo l := ⟨by have := h.1; omega, h.2.1, by have := h.2.2; rw [Nat.pow_succ]; omega⟩
theorem Rng.right {low d lo l : Nat} (h : Rng (low + 2 ^ d) d lo l) : Rng low (d + 1) lo l := ⟨by have := h.1; omega, by have := h.2.1; have := Nat.two_pow_pos d; omega, by have := h.2.2; rw [Nat.pow_succ]; omega⟩
theorem Abs.left {xs : FdX} {low d : Nat} (h : Abs xs low (d + 1)) : Abs xs low d := fun lo l hr => h _ _ hr.left
theorem Abs.right {xs xs1 : FdX} {low d : Nat} (h : Abs xs low (d + 1)) (s : SameOut xs xs1 low d) : Abs xs1 (low + 2 ^ d) d := fun lo l hr => by
  rw [s lo l (fun q => by
    have h1 := hr.2.1
    have h2 := q.2.2
    have := Nat.two_pow_pos l
    omega)]
  exact h _ _ hr.right
theorem Cov.join {T1 T2 T3 : List Oct} {n1 n2 : Nat} {dflt : Oct} {xs xs1 xs2 : FdX} {f : Nat → Oct} {low d : Nat} {a : Addr} {b : Array UInt8} {t : Tok} (hal : low % 2 ^ (d + 1) = 0)
    (c1 : Cov T1 dflt xs1 f low d) (c2 : Cov T2 dflt xs2 f (low + 2 ^ d) d) (s1 : SameOut xs xs1 low d) (s2 : SameOut xs1 xs2 (low + 2 ^ d) d) (e2 : Ext n1 T1 T2) (e3 : Ext n2 T2 T3) (ht : Tr T3 (d + 1) (sub f low) b.toList) :
    Cov T3 dflt (storedH xs2 [(low : Int), ((d + 1 : Nat) : Int)] a (.bytes b t)) f low (d + 1) ∧ SameOut xs (storedH xs2 [(low : Int), ((d + 1 : Nat) : Int)] a (.bytes b t)) low (d + 1) := by
  have hp := Nat.two_pow_pos d
  refine ⟨fun l lo hr hm => ?_, fun lo l hr => ?_⟩
  · rw [fat_stored]
    by_cases hk : lo = low ∧ l = d + 1
    · rw [if_pos hk]
      obtain ⟨rfl, rfl⟩ := hk
      exact .inl ⟨b, t, rfl, ht⟩
    · rw [if_neg hk]
      have hld : l ≤ d := by
        obtain ⟨h1, h2, h3⟩ := hr
        by_cases q : l = d + 1
        · subst q
          exact absurd ⟨by omega, rfl⟩ hk
        · omega
      have hmid : lo + 2 ^ l ≤ low + 2 ^ d ∨ low + 2 ^ d ≤ lo := by
        obtain ⟨h1, h2, h3⟩ := hr
        have e1 : 2 ^ (d + 1) = 2 ^ l * 2 ^ (d + 1 - l) := by rw [← Nat.pow_add]; congr 1; omega
        have e2 : 2 ^ d = 2 ^ l * 2 ^ (d - l) := by rw [← Nat.pow_add]; congr 1; omega
        have hl0 : low % 2 ^ l = 0 := by
          have : 2 ^ l ∣ low := Nat.dvd_trans ⟨_, e1⟩ (Nat.dvd_of_mod_eq_zero hal)
          exact Nat.mod_eq_zero_of_dvd this
        obtain ⟨u, hu⟩ := Nat.dvd_of_mod_eq_zero hm
        obtain ⟨v, hv⟩ := Nat.dvd_of_mod_eq_zero hl0
        rw [hu, hv, e2, ← Nat.mul_add]
        by_cases q : u < v + 2 ^ (d - l)
        · left
          calc 2 ^ l * u + 2 ^ l = 2 ^ l * (u + 1) := by rw [Nat.mul_add, Nat.mul_one]
            _ ≤ 2 ^ l * (v + 2 ^ (d - l)) := Nat.mul_le_mul_left _ q
        · right; exact Nat.mul_le_mul_left _ (by omega)
      rcases hmid with hm1 | hm2
      · have hr1 : Rng low d lo l := ⟨hld, hr.2.1, hm1⟩
        rw [s2 lo l (fun q => by have := q.2.1; have := Nat.two_pow_pos l; omega)]
        exact (c1.ext e2).ext e3 l lo hr1 hm
      · have hr2 : Rng (low + 2 ^ d) d lo l := ⟨hld, hm2, by have := hr.2.2; rw [Nat.pow_succ] at this; omega⟩
        exact c2.ext e3 l lo hr2 hm
  · rw [fat_stored, if_neg (fun q => hr (by rw [q.1, q.2]; exact ⟨Nat.le_refl _, Nat.le_refl _, Nat.le_refl _⟩)), s2 lo l (fun q => hr q.right), s1 lo l (fun q => hr q.left)]
theorem Cov.leaf {T T' : List Oct} {n : Nat} {dflt : Oct} {xs : FdX} {f : Nat → Oct} {low : Nat} {a : Addr} {b : Array UInt8} {t : Tok} (e : Ext n T T') (ht : hsh T' (f low) = some b.toList) :
    Cov T' dflt (storedH xs [(low : Int), ((0 : Nat) : Int)] a (.bytes b t)) f low 0 ∧ SameOut xs (storedH xs [(low : Int), ((0 : Nat) : Int)] a (.bytes b t)) low 0 := by
  refine ⟨fun l lo hr hm => ?_, fun lo l hr => ?_⟩
  · obtain ⟨h1, h2, h3⟩ := hr
    have hl : l = 0 := by omega
    subst hl
    have : lo = low := by omega
    subst this
    rw [fat_stored, if_pos ⟨rfl, rfl⟩]
    exact .inl ⟨b, t, rfl, by show hsh T' (f (0 + lo)) = _; rw [Nat.zero_add]; exact ht⟩
  · rw [fat_stored, if_neg (fun q => hr (by rw [q.1, q.2]; exact ⟨Nat.le_refl _, Nat.le_refl _, Nat.le_refl _⟩))]
theorem look_filter {K : Type} [DecidableEq K] (pz : K → Bool) (k : K) : ∀ D : List (K × Oct), look (D.filter fun p => pz p.1) k = if pz k = true then look D k else none
  | [] => by simp [look]
  | p :: r => by
    have ih := look_filter pz k r
    unfold look at *
    rw [List.filter_cons]
    by_cases hp : p.1 = k
    · by_cases hz : pz p.1 = true
      · rw [if_pos hz, if_pos (hp ▸ hz)]
        simp [List.find?_cons, hp]
      · rw [if_neg hz, ih, if_neg (hp ▸ hz), if_neg (hp ▸ hz)]
    · by_cases hz : pz p.1 = true
      · rw [if_pos hz]
        simp only [List.find?_cons, hp, decide_false]
        exact ih
      · rw [if_neg hz, ih]
        simp only [List.find?_cons, hp, decide_false]
/-- a dict of numbers stands for a part of the leaves -/
def Rep (D : List (Int × Oct)) (f : Nat → Oct) (dflt : Oct) (low d : Nat) : Prop :=
  (∀ i, low ≤ i → i < low + 2 ^ d → (look D (i : Int)).getD dflt = f i) ∧ ∀ k ∈ D.map (·.1), (low : Int) ≤ k ∧ k < ((low + 2 ^ d : Nat) : Int)
theorem Rep.left {D : List (Int × Oct)} {f : Nat → Oct} {dflt : Oct} {low d : Nat} (h : Rep D f dflt low (d + 1)) : Rep (D.filter fun p => decide (p.1 < ((low + 2 ^ d : Nat) : Int))) f dflt low d := by
  refine ⟨fun i h1 h2 => ?_, fun k hk => ?_⟩
  · have := h.1 i h1 (by rw [Nat.pow_succ]; omega)
    rw [look_filter (fun k => decide (k < ((low + 2 ^ d : Nat) : Int))), if_pos (by simp only [decide_eq_true_eq]; omega)]
    exact this
  · obtain ⟨p, hp, rfl⟩ := List.mem_map.mp hk
    obtain ⟨hp1, hp2⟩ := List.mem_filter.mp hp
    have := (h.2 p.1 (List.mem_map_of_mem hp1)).1
    simp only [decide_eq_true_eq] at hp2
    exact ⟨this, hp2⟩
theorem Rep.right {D : List (Int × Oct)} {f : Nat → Oct} {dflt : Oct} {low d : Nat} (h : Rep D f dflt low (d + 1)) : Rep (D.filter fun p => decide (((low + 2 ^ d : Nat) : Int) ≤ p.1)) f dflt (low + 2 ^ d) d := by
  refine ⟨fun i h1 h2 => ?_, fun k hk => ?_⟩
  · have := h.1 i (by omega) (by rw [Nat.pow_succ]; omega)
    rw [look_filter (fun k => decide (((low + 2 ^ d : Nat) : Int) ≤ k)), if_pos (by simp only [decide_eq_true_eq]; omega)]
    exact this
  · obtain ⟨p, hp, rfl⟩ := List.mem_map.mp hk
    obtain ⟨hp1, hp2⟩ := List.mem_filter.mp hp
    have := (h.2 p.1 (List.mem_map_of_mem hp1)).2
    simp only [decide_eq_true_eq] at hp2
    rw [Nat.pow_succ] at this
    exact ⟨hp2, by omega⟩
theorem Rep.none {f : Nat → Oct} {dflt : Oct} {low d : Nat} (h : Rep [] f dflt low d) (i : Nat) (hi : i < 2 ^ d) : f (low + i) = dflt := by
  have := h.1 (low + i) (by omega) (by omega)
  rw [← this]; rfl
theorem Rep.leaf {D : List (Int × Oct)} {f : Nat → Oct} {dflt : Oct} {low : Nat} (h : Rep D f dflt low 0) (hD : D ≠ []) : look D (low : Int) = some (f low) := by
  have h1 := h.1 low (Nat.le_refl _) (by simp)
  cases D with
  | nil => exact absurd rfl hD
  | cons p r =>
    have h2 := h.2 p.1 (List.mem_map_of_mem (List.mem_cons_self ..))
    have e : p.1 = (low : Int) := by simp at h2; omega
    have : look (p :: r) (low : Int) = some p.2 := by simp [look, e]
    rw [this] at h1 ⊢
    rw [← h1]; rfl
abbrev TK (prog : Program) (w : World) : HeapKind prog w (List Int) := tupleKind (intKind prog w)
def FdObj (prog : Program) (w : World) (o : Obj) (xs : FdX) : Prop := ∃ es ep, o.ExactDict ∧ o.data = .dict es ep ∧ es.toList = xs.map (entryOfKey (TK prog w)) ∧ (xs.map (·.1)).Nodup
def KeyObj (prog : Program) (w : World) (k : List Int) (o : Obj) : Prop := ∃ items n, o.cls = .type "tuple" ∧ o.data = .seq items n ∧ ItemsAre (intKind prog w) k items.toList
def KeysAt (prog : Program) (w : World) (h : Heap) (xs : FdX) : Prop := ∀ x ∈ xs, ∃ o, h.get? x.2.1 = some o ∧ KeyObj prog w x.1 o
/-- where the key objects of a grown dict come from -/
def KeyFrom (prog : Program) (w : World) (xs : FdX) (keys : List (Addr × Obj)) (xs' : FdX) : Prop := ∀ x ∈ xs', (∃ y ∈ xs, x.1 = y.1 ∧ x.2.1 = y.2.1) ∨ ∃ o, (x.2.1, o) ∈ keys ∧ KeyObj prog w x.1 o
theorem KeyFrom.refl {prog : Program} {w : World} (xs : FdX) : KeyFrom prog w xs [] xs := fun x hx => .inl ⟨x, hx, rfl, rfl⟩
theorem KeyFrom.trans {prog : Program} {w : World} {xs xs1 xs2 : FdX} {k1 k2 : List (Addr × Obj)} (a : KeyFrom prog w xs k1 xs1) (b : KeyFrom prog w xs1 k2 xs2) : KeyFrom prog w xs (k1 ++ k2) xs2 := fun x hx => by
  rcases b x hx with ⟨y, hy, e1, e2⟩ | ⟨o, ho, hk⟩
  · rcases a y hy with ⟨z, hz, e3, e4⟩ | ⟨o, ho, hk⟩
    · exact .inl ⟨z, hz, e1.trans e3, e2.trans e4⟩
    · exact .inr ⟨o, List.mem_append_left _ (by rw [e2]; exact ho), by rw [e1]; exact hk⟩
  · exact .inr ⟨o, List.mem_append_right _ ho, hk⟩
theorem KeyFrom.put {prog : Program} {w : World} {xs xs1 : FdX} {k1 : List (Addr × Obj)} (a : KeyFrom prog w xs k1 xs1) {k : List Int} {kt : Addr} {o : Obj} (ho : KeyObj prog w k o) (v : Value) : KeyFrom prog w xs ((kt, o) :: k1) (storedH xs1 k kt v) := fun x hx => by
  rcases mem_storedH hx with ⟨y, hy, e1, e2⟩ | ⟨e1, e2⟩
  · rcases a y hy with ⟨z, hz, e3, e4⟩ | ⟨o', ho', hk⟩
    · exact .inl ⟨z, hz, e1.trans e3, e2.trans e4⟩
    · exact .inr ⟨o', .tail _ (by rw [e2]; exact ho'), by rw [e1]; exact hk⟩
  · exact .inr ⟨o, by rw [e2]; exact .head _, by rw [e1]; exact ho⟩
theorem KeysAt.from {prog : Program} {w : World} {h : Heap} {xs xs' : FdX} {keys : List (Addr × Obj)} (a : KeysAt prog w h xs) (b : KeyFrom prog w xs keys xs') (hk : ∀ p ∈ keys, h.get? p.1 = some p.2) : KeysAt prog w h xs' := fun x hx => by
  rcases b x hx with ⟨y, hy, e1, e2⟩ | ⟨o, ho, hk'⟩
  · obtain ⟨o, h1, h2⟩ := a y hy
    exact ⟨o, by rw [e2]; exact h1, by rw [e1]; exact h2⟩
  · exact ⟨o, hk _ ho, hk'⟩
theorem KeysAt.keeps {prog : Program} {w : World} {h h' : Heap} {xs : FdX} (a : KeysAt prog w h xs) (k : ∀ b o, h.get? b = some o → h'.get? b = some o) : KeysAt prog w h' xs := fun x hx => let ⟨o, h1, h2⟩ := a x hx; ⟨o, k _ _ h1, h2⟩
theorem storedH_len (xs : FdX) (k : List Int) (a : Addr) (v : Value) : (storedH xs k a v).length ≤ xs.length + 1 := by
  unfold storedH; split <;> simp
theorem keyObj2 {prog : Program} {w : World} {a b : Int} {t u : Tok} {n : Nat} : KeyObj prog w [a, b] { cls := .type "tuple", data := .seq #[.int a t, .int b u] n } :=
  ⟨_, _, rfl, rfl, .cons (intKind_is _ _ _ _) (.cons (intKind_is _ _ _ _) .nil)⟩
section
variable {prog : Program} {w : World} {A : Around} {E : Value → Shared → Prop} {s : Shared} {g : Heap} {L fo kt : Addr} {m : Str → Option Value} {news : List (Addr × Obj)} {gn : Obj → List (Addr × Obj)} {ofd : Obj} {xs : FdX} {a b : Int} {t u : Tok} {n : Nat}
theorem FdObj.dict {h : Heap} {d : Addr} (hfd : FdObj prog w ofd xs) (ho : h.get? d = some ofd) (hk : KeysAt prog w h xs) : h.DictOfH (TK prog w) d xs := by
  obtain ⟨es, ep, h1, h2, h3, h4⟩ := hfd
  exact ⟨ofd, es, ep, ho, h1, h2, h3, fun x hx => let ⟨o, e, items, n, q1, q2, q3⟩ := hk x hx; ⟨o, items, n, e, q1, q2, q3⟩, h4⟩
theorem fd_set {v : Value} {Q : Unit → Shared → Prop} (F : Fr g L s.heap m) (N : News g L s.heap news) (U : UpdF fo ofd news gn) (hfd : FdObj prog w ofd xs) (hk : KeysAt prog w s.heap xs) (hkt : (kt, { cls := .type "tuple", data := .seq #[.int a t, .int b u] n }) ∈ news) (hun : A.units + 1 < cLine) (hsz : xs.length ≤ 1000000)
    (h : ∀ h' o' tk, Fr g L h' m → News g L h' (gn o') → FdObj prog w o' (storedH xs [a, b] kt v) → Q () { s with heap := h', toks := tk }) : wpAny (model prog w) A (setItem (.ref fo) (.ref kt) v) Q E s := by
  obtain ⟨pre, post, rfl, hg, ha, hb⟩ := U.split
  have hm := N (fo, ofd) (List.mem_append_right _ (.head _))
  refine wpAny_setItem_heap (knd := TK prog w) (k := [a, b]) (tupleKind_room_in1 hun) ⟨_, _, _, (N _ hkt).1, rfl, rfl, .cons (intKind_is _ _ _ _) (.cons (intKind_is _ _ _ _) .nil)⟩ (hfd.dict hm.1 hk) (fun h' hD hs => ?_) (by rw [sizeLine_eq]; omega)
  obtain ⟨o', es, ep, ho', h1, h2, h3, _, h5⟩ := hD
  exact h h' o' _ (F.change hs hm.2.1 hm.2.2) (hg o' ▸ N.setIn ha hb hs ho') ⟨es, ep, h1, h2, h3, h5⟩
theorem fd_get {v : Value} {Q : Value → Shared → Prop} (N : News g L s.heap news) (hfo : s.heap.get? fo = some ofd) (hfd : FdObj prog w ofd xs) (hk : KeysAt prog w s.heap xs) (hkt : (kt, { cls := .type "tuple", data := .seq #[.int a t, .int b u] n }) ∈ news) (hun : A.units + 2 < cLine) (lo : (fo == sysModules) = false)
    (h : ∀ tk, Q (((atKey xs [a, b]).map (·.2)).getD v) { s with toks := tk }) : wpAny (model prog w) A (call (.builtin "dict.get") [.ref fo, .ref kt, v]) Q E s := by
  have hD := hfd.dict hfo hk
  refine wpAny_call_entry F.slot_dict_get hD.typeIs F.entry_dict_get ?_ (F.args_dict_get_3 _ _ _)
  have hkey : (TK prog w).is s.heap [a, b] kt := ⟨_, _, _, (N _ hkt).1, rfl, rfl, .cons (intKind_is _ _ _ _) (.cons (intKind_is _ _ _ _) .nil)⟩
  show wpAny _ _ (dictGet fo (.ref kt) >>= _) _ _ s
  refine wpAny_bind (wpAny_dictGet_heap (knd := TK prog w) (k := [a, b]) (tupleKind_room_in1 (by omega)) hkey hD ?_)
  have hq := h (s.toks + (TK prog w).draws [a, b])
  cases hf : (atKey xs [a, b]).map (·.2) with
  | some x =>
    rw [hf] at hq
    exact wpAny_pure ⟨x, rfl, hq⟩
  | none =>
    rw [hf] at hq
    show wpAny _ _ (Builtin.Dict.missed fo (.ref kt) >>= _) _ _ _
    exact wpAny_bind (wpAny_missed_other lo (wpAny_pure ⟨v, rfl, hq⟩))
end
end -- S19
section -- S20
theorem lines_s20_1 : True := by
  w_top off
  k_with_none
  (k_with "exec For Name Call cons nil" => (refine stop ?_))
  (k_with "exec For Name Call" => (refine stop ?_))
  (k_with "pyIter ref" => (refine stop ?_))
  (k_with "k_room" => (((try simp only [depth_under_make, depth_under_kw, depth_in1, depth_deeper, depth_caller]); omega)))
  (k_with "compareOp NotEq int int" => (refine ne_same ?_))
  (k_with "call ref" => ((k_here; (with_reducible show wpAny _ _ (call (Value.ref _) [Value.bytes _ _, Value.str _ _]) _ _ _); k_dflt (refine' from_big ?q6N ?q6m ?q6l ?q6p ?_; (case q6N => k_asm); (case q6m => k_mem); (case q6l => omega); (case q6p => assumption)); intro t' k')))
  (k_with "z cj" => (first | with_reducible assumption | exact And.left (by with_reducible assumption) | exact And.left (And.right (by with_reducible assumption)) | exact And.left (And.right (And.right (by with_reducible assumption))) | exact And.left (And.right (And.right (And.right (by with_reducible assumption)))) | exact And.left (And.right (And.right (And.right (And.right (by with_reducible assumption))))) | exact And.left (And.right (And.right (And.right (And.right (And.right (by with_reducible assumption)))))) | exact And.left (And.right (And.right (And.right (And.right (And.right (And.right (by with_reducible assumption))))))) | exact And.left (And.right (And.right (And.right (And.right (And.right (And.right (And.right (by with_reducible assumption)))))))) | exact And.right (by with_reducible assumption) | exact And.right (And.right (by with_reducible assumption)) | exact And.right (And.right (And.right (by with_reducible assumption))) | exact And.right (And.right (And.right (And.right (by with_reducible assumption)))) | exact And.right (And.right (And.right (And.right (And.right (by with_reducible assumption))))) | exact And.right (And.right (And.right (And.right (And.right (And.right (by with_reducible assumption)))))) | exact And.right (And.right (And.right (And.right (And.right (And.right (And.right (by with_reducible assumption)))))))))
  (k_with "z ne1" => (first | k_extra "z cj" | (refine Ne.symm ?_; k_extra "z cj") | exact AllNe.at1 (by with_reducible assumption) (by k_mem) | exact AllNe.at2 (by with_reducible assumption) (by k_mem) | omega))
  (k_with "k_ne" => ((refine PySem.W.neN ?_; (try dsimp only); k_extra "z ne1")))
  (k_with "execs cons" => (((with_reducible show wpAny _ _ (execs (Stmt.Assign _ _ _ :: _) _) _ _ _); refine execsGen fun P8 hP8 => ?_)))
  (k_with "execs cons" => (((with_reducible show wpAny _ _ (execs (Stmt.Expr _ _ :: _) _) _ _ _); refine execsGen fun P8 hP8 => ?_)))
  (k_with "execs cons" => (((with_reducible show wpAny _ _ (execs (Stmt.AugAssign _ _ _ _ :: _) _) _ _ _); refine execsGen fun P8 hP8 => ?_)))
  (k_with "FinQ" => ((refine finOut (by with_reducible assumption) ?_; (try dsimp only))))
  (k_with "call ref" => ((k_here; (with_reducible show wpAny _ _ (call (Value.ref 34) [Value.bytes _ _]) _ _ _); k_dflt (refine' call_valid_bytes ?q7B ?q7F ?q7X ?q7T ?q7N ?q7c1 ?q7c2 ?q7c3 ?q7c4 ?q7r ?_; (case q7F => k_asm); (case q7N => k_asm); (case q7B => k_asm); (case q7X => k_asm); (case q7T => k_asm); (case q7c1 => exact rfl); (case q7c2 => exact rfl); (case q7c3 => exact rfl); (case q7c4 => exact rfl); (case q7r => k_room)); intro h' tk' F' N'; (try k_sweep))))
  (k_with "call ref" => ((k_here; (with_reducible show wpAny _ _ (call (Value.ref 41) [Value.bytes _ _, Value.int _ _]) _ _ _); k_dflt (refine' call_valid_length ?q8B ?q8F ?q8X ?q8T ?q8N ?q8c1 ?q8c2 ?q8c3 ?q8c4 ?q8r ?q8z ?q8n ?_; (case q8F => k_asm); (case q8N => k_asm); (case q8B => k_asm); (case q8X => k_asm); (case q8T => k_asm); (case q8c1 => exact rfl); (case q8c2 => exact rfl); (case q8c3 => exact rfl); (case q8c4 => exact rfl); (case q8r => k_room); (case q8z => omega); (case q8n => omega)); intro h' tk' F' N'; (try k_sweep))))
  (k_with "getMethod type:int" => ((k_here; k_dflt (refine' KFB.getm ?q9kfbF ?q9kfbN ?q9kfbX (find_fb _) ?_; (case q9kfbF => k_asm); (case q9kfbN => k_asm); (case q9kfbX => k_asm); k_whole; intro x' h' F' N' l1; (try k_lt l1); (try k_sweep)))))
  (k_with "eval Name" => ((k_here; k_dflt (refine' nameX_L ?q10F ?q10v ?_ ?q10a ?q10b; (case q10a => rfl); (case q10b => rfl); (case q10F => k_asm); (case q10v => assumption); k_whole))))
  (k_with "subscriptTail" => ((k_here; (with_reducible show wpAny _ _ (subscriptTail _ _ (Value.ref _) (Value.bytes _ _)) _ _ _); k_dflt (refine' kb_item ?q11N ?q11p ?q11d (bk_is _ _) ?q11l ?_; (case q11N => k_asm); (case q11p => k_mem); (case q11d => assumption); (case q11l => assumption); (intro b' t' hb')))))
  (k_with "subscriptTail" => ((k_here; (with_reducible show wpAny _ _ (subscriptTail _ (Expr.Slice none _ none _) (Value.bytes _ _) (Value.ref _)) _ _ _); (with_reducible rename Fr _ _ _ _ => F'); (with_reducible rename News _ _ _ _ => N'); (refine cut_lo (s := ⟨_, _, _, _, _⟩) F' N' (by assumption) (by assumption) (by assumption) ?_); intro _ _ _ _ _ _ _)))
  (k_with "subscriptTail" => ((k_here; (with_reducible show wpAny _ _ (subscriptTail _ (Expr.Slice _ none none _) (Value.bytes _ _) (Value.ref _)) _ _ _); (with_reducible rename Fr _ _ _ _ => F'); (with_reducible rename News _ _ _ _ => N'); (refine cut_hi (s := ⟨_, _, _, _, _⟩) F' N' (by assumption) (by assumption) (by assumption) ?_); intro _ _ _ _ _ _ _)))
  (k_with "binaryOp BitAnd int int" => ((k_here; refine and_bit (by assumption) (fun hbit hpos => ?_) (fun hbit => ?_))))
  (k_with "loadName" => ((k_here; k_dflt (refine' ldn ?q12F ?q12v ?_ ?q12a ?q12b; (case q12a => rfl); (case q12b => rfl); (case q12F => k_asm); (case q12v => assumption); k_whole))))
  (k_with "truthy int" => ((refine truthy_pos (by assumption) ?_)))
  (k_with "hash1" => (exact HashFn.at1 (by assumption) (by k_asm) (by k_asm) (by k_mem)))
  (k_with "callWith ref" => ((k_here; k_dflt (refine' callWith_F ?q13k1 ?_; (case q13k1 => exact HashFn.fnAt (by assumption) (by k_asm)); k_whole))))
  (k_with "FnAt" => (exact HashFn.fnAt (by assumption) (by k_asm)))
  (k_with "And" => (((with_reducible show FnAt _ _ ∧ _); refine ⟨HashFn.fnAt (by assumption) (by k_asm), ?_⟩; try dsimp only [List.nil_append, List.cons_append])))
  (k_with "nm_m10_1" => (intro bH tH h' tk' oH TH F' N' hxH hbH hlH hotH))
  (k_with "nm_m10_2" => ((try dsimp only at N')))
  (k_with "call ref" => ((k_here; (with_reducible show wpAny _ _ (call (Value.ref _) [Value.bytes _ _]) _ _ _); k_dflt (refine' call_hash ?q14B ?q14F ?q14X ?q14T ?q14N ?q14c1 ?q14c2 ?q14c3 ?q14c4 ?q14H ?q14ot ?q14U ?q14z ?q14r ?q14lo ?_; (case q14F => k_asm); (case q14N => k_asm); (case q14B => k_asm); (case q14X => k_asm); (case q14T => k_asm); (case q14c1 => exact rfl); (case q14c2 => exact rfl); (case q14c3 => exact rfl); (case q14c4 => exact rfl); (case q14H => k_extra "hash1"); (case q14ot => assumption); (case q14U => k_updF); (case q14z => omega); (case q14r => k_room); (case q14lo => assumption)); k_extra "nm_m10_1"; k_extra "nm_m10_2"; (try k_sweep))))
  (k_with "call ref" => ((k_here; (with_reducible show wpAny _ _ (call (Value.ref 34) [Value.bytes _ _]) _ _ _); k_dflt (refine' call_valid_bytes ?q7B ?q7F ?q7X ?q7T ?q7N ?q7c1 ?q7c2 ?q7c3 ?q7c4 ?q7r ?_; (case q7F => k_asm); (case q7N => k_asm); (case q7B => k_asm); (case q7X => k_asm); (case q7T => k_asm); (case q7c1 => exact rfl); (case q7c2 => exact rfl); (case q7c3 => exact rfl); (case q7c4 => exact rfl); (case q7r => k_room)); intro h' tk' F' N'; (try k_sweep))))
  (k_with "nm_m10_3" => (intro rG qG bvsG vG bsG nG n2G h' tk' F' N' hrG hqG hqrG hoG hsG hvG))
  (k_with "nm_m10_4" => ((have hrG9 := hrG; have hqG9 := hqG; simp only [AllNe, and_true] at hrG hqG)))
  (k_with "call ref" => ((k_here; (with_reducible show wpAny _ _ (call (Value.ref 88) [Value.ref _, Value.bytes _ _]) _ _ _); k_dflt (refine' call_get ?q15B ?q15F ?q15X ?q15T ?q15N ?q15c1 ?q15c2 ?q15c3 ?q15c4 ?q15m1 ?q15m2 ?q15m3 ?q15ne ?q15r ?q15s1 ?q15s2 ?q15ky ?q15hp ?q15hp2 ?q15db ?q15hin ?_; (case q15F => k_asm); (case q15N => k_asm); (case q15B => k_asm); (case q15X => k_asm); (case q15T => k_asm); (case q15c1 => exact rfl); (case q15c2 => exact rfl); (case q15c3 => exact rfl); (case q15c4 => exact rfl); (case q15m1 => k_mem); (case q15m2 => k_mem); (case q15m3 => k_mem); (case q15ne => (refine ⟨?_, ?_, ?_⟩ <;> k_ne)); (case q15r => k_room); (case q15s1 => omega); (case q15s2 => omega); (case q15ky => assumption); (case q15hp => assumption); (case q15hp2 => assumption); (case q15db => assumption); (case q15hin => assumption)); k_extra "nm_m10_3"; k_extra "nm_m10_4"; (try k_sweep))))
  (k_with "nm_m10_5" => ((intro DR h' tk' F' N' l1; (try k_lt l1))))
  (k_with "call type:reversed" => ((k_here; (with_reducible show wpAny _ _ (call (Value.type _) [Value.ref _]) _ _ _); k_dflt (refine' reversed_tup ?q16F ?q16N ?q16m ?q16z ?_; (case q16F => k_asm); (case q16N => k_asm); (case q16m => k_mem); (case q16z => assumption)); k_extra "nm_m10_5"; (try k_sweep))))
  (k_with "nm_m10_6" => (intro h' oS F' N' hdS))
  (k_with "nm_m10_7" => ((try dsimp only at N')))
  (k_with "setItem ref bytes" => ((k_here; (with_reducible show wpAny _ _ (setItem (Value.ref _) (Value.bytes _ _) (Value.bytes _ _)) _ _ _); k_dflt (refine' kb_set ?q17F ?q17N ?q17U ?q17d (bk_is _ _) ?q17z ?_; (case q17F => k_asm); (case q17N => k_asm); (case q17U => k_updF); (case q17d => assumption); (case q17z => (simp only [sizeLine_eq]; omega)); (k_extra "nm_m10_6"); k_extra "nm_m10_7"))))
  (k_with "nm_m10_8" => (intro dA tA kA hdA))
  (k_with "binaryOp Add bytes bytes" => ((k_here; (with_reducible show wpAny _ _ (binaryOp Operator.Add (Value.bytes _ _) (Value.bytes _ _)) _ _ _); refine add_octs (by assumption) (by assumption) ?_; k_extra "nm_m10_8")))
  (k_with "nm_m10_9" => (intro tA kA))
  (k_with "inplaceOp LShift int int" => ((k_here; refine shl_pow (by assumption) (by omega) ?_; k_extra "nm_m10_9")))
  (k_with "allne" => ((simp only [AllNe, and_true]; (repeat' apply And.intro) <;> k_extra "z ne1")))
  (k_with "nm_m10_10" => ((intro DT h' tk' F' N' l1; (try k_lt l1))))
  (k_with "call type:tuple" => ((k_here; (with_reducible show wpAny _ _ (call (Value.type _) [Value.ref _]) _ _ _); k_dflt (refine' tuple_rev ?q18hh ?q18F ?q18N ?q18m ?q18c ?q18d ?q18ne ?q18z ?_; (case q18hh => exact rfl); (case q18F => k_asm); (case q18N => k_asm); (case q18m => k_mem); (case q18c => exact rfl); (case q18d => exact rfl); (case q18ne => k_extra "allne"); (case q18z => assumption)); k_extra "nm_m10_10"; (try k_sweep))))
  (k_with "subscriptTail" => ((k_here; (with_reducible show wpAny _ _ (subscriptTail _ _ (Value.ref _) (Value.int (-1) _)) _ _ _); k_dflt (refine' listItems_neg ?q30N ?q30m ?q30z ?_; (case q30N => k_asm); (case q30m => k_mem); (case q30z => assumption)))))
  trivial
theorem units_deeper (A : Around) (env : Env) : (A.deeper env).units = A.units + 3 := rfl
theorem units_in1 (A : Around) : A.in1.units = A.units + 1 := rfl
theorem units_Ar (dp un : Nat) (gd : Option (List Code)) (fr : List Env) : (Ar dp un gd fr).units = un := rfl
section
variable {prog : Program} {w : World} {K : Type} [DecidableEq K] {knd : KeyKind prog w K} {A : Around} {E : Value → Shared → Prop} {s : Shared} {g : Heap} {L a b : Addr} {news : List (Addr × Obj)} {oa ob : Obj} {D : List (K × Oct)}
theorem eq_empty {Q : Value → Shared → Prop} (N : News g L s.heap news) (m1 : (a, oa) ∈ news) (m2 : (b, ob) ∈ news) (da : IsKB knd oa D) (db : ob.IsDictOf knd []) (la : (a == sysModules) = false) (lb : (b == sysModules) = false) (hu : A.units < cLine)
    (h1 : D = [] → Q (.bool true) s) (h2 : D ≠ [] → Q (.bool false) s) : wpAny (model prog w) A (compareOp .Eq (.ref a) (.ref b)) Q E s := by
  obtain ⟨kvs, hdo, hrel⟩ := da
  refine keq_eq (knd := knd) (ka := kvs) (kb := []) (r := true) la lb (Heap.dictOf_iff.mpr ⟨oa, (N _ m1).1, hdo⟩) (Heap.dictOf_iff.mpr ⟨ob, (N _ m2).1, db⟩) hu (fun e => ?_) ?_
  · cases kvs with
    | nil => exact .nil
    | cons p r => simp at e
  · cases hD : D with
    | nil =>
      have : kvs = [] := by have := hrel.length; rw [hD] at this; exact List.eq_nil_of_length_eq_zero this
      rw [this]; exact h1 hD
    | cons p r =>
      have hl := hrel.length
      rw [hD] at hl
      have : (kvs.length == ([] : List (K × Value)).length) = false := by rw [hl]; simp
      rw [this, Bool.false_and]
      exact h2 (by rw [hD]; simp)
end
section
variable {prog : Program} {w : World} {A : Around} {E : Value → Shared → Prop} {s : Shared} {g : Heap} {L l : Addr} {news : List (Addr × Obj)}
theorem item_blk {value slice : PySem.Expr} {T : List Oct} {dflt : Oct} {nb n d : Nat} {vs : List Value} {t : Tok} {Q : Value → Shared → Prop} (N : News g L s.heap news) (hm : (l, listOf vs.toArray n) ∈ news) (hb : Blk T dflt nb vs) (hd : d < nb) (hn : nb ≤ 257)
    (h : ∀ b u, Tr T d (cst dflt) b.toList → Q (.bytes b u) s) (hs : subscripted slice false (.ref l) (.int (d : Int) t) = operate [.ref l, .int (d : Int) t] (getItem (.ref l) (.int (d : Int) t)) := by with_unfolding_all rfl) :
    wpAny (model prog w) A (subscriptTail value slice (.ref l) (.int (d : Int) t)) Q E s := by
  have hl : s.heap.IsList l vs.toArray := ⟨_, (N _ hm).1, rfl, n, rfl⟩
  obtain ⟨b, u, hv, ht⟩ := hb.2 d hd
  exact tail_any hl.typeIs slot_list_getitem.lookup (wpAny_getItem_list hl (by omega) (by omega) (by simpa using hv) (h b u ht)) hs
end
theorem lines_s20_2 : True := by
  (k_with "k_un" => (((try simp only [units_deeper, units_in1, units_Ar]); omega)))
  (k_with "nm_eqe" => (intro hD9))
  (k_with "compareOp Eq ref ref" => ((k_here; k_dflt (refine' eq_empty (knd := intKind _ _) ?q31N ?q31m1 ?q31m2 ?q31da ?q31db ?q31la ?q31lb ?q31hu ?_ ?_; (case q31N => k_asm); (case q31m1 => k_mem); (case q31m2 => k_mem); (case q31da => assumption); (case q31db => assumption); (case q31la => assumption); (case q31lb => assumption); (case q31hu => k_extra "k_un")); (all_goals k_extra "nm_eqe"))))
  (k_with "nm_blk" => (intro bK uK hbK))
  (k_with "subscriptTail" => ((k_here; (with_reducible show wpAny _ _ (subscriptTail _ _ (Value.ref _) (Value.int _ _)) _ _ _); k_dflt (refine' item_blk ?q32N ?q32m ?q32b ?q32d ?q32n ?_; (case q32N => k_asm); (case q32m => k_mem); (case q32b => assumption); (case q32d => omega); (case q32n => assumption)); k_extra "nm_blk")))
  (k_with "nm_held" => (intro bHd tHd hHd))
  (k_with "subscriptTail" => ((k_here; (with_reducible show wpAny _ _ (subscriptTail _ _ (Value.ref _) (Value.int _ _)) _ _ _); k_dflt (refine' kb_item (knd := intKind _ _) ?q33N ?q33p ?q33d (intKind_is _ _ _ _) ?q33l ?_; (case q33N => k_asm); (case q33p => k_mem); (case q33d => assumption); (case q33l => exact Rep.leaf (by assumption) (by assumption))); k_extra "nm_held")))
  (k_with "nm_fd" => ((intro h' oFd tk' F' N' hFd; (try dsimp only at N'))))
  (k_with "setItem ref ref" => ((k_here; k_dflt (refine' fd_set ?q34F ?q34N ?q34U ?q34fd ?q34k ?q34kt ?q34un ?q34z ?_; (case q34F => k_asm); (case q34N => k_asm); (case q34fd => assumption); (case q34U => k_updF); (case q34kt => k_mem); (case q34k => first | assumption | exact KeysAt.keeps (by assumption) (Fr.keep (by k_asm))); (case q34un => k_extra "k_un"); (case q34z => omega)); k_extra "nm_fd")))
  trivial
abbrev topLed (ho bl fo ta : Addr) (oh : Obj) (vs : List Value) (n : Nat) (ofd ot : Obj) : List (Addr × Obj) := [(ho, oh), (bl, listOf vs.toArray n), (fo, ofd), (ta, ot)]
def TopC (prog : Program) (w : World) (d : Nat) : Prop := ∀ {A : Around} {s : Shared} {g : Heap} {R : Result → Shared → Prop} {fa ta bl fo ho : Addr} {ot ofd oh : Obj} {T : List Oct} {D : List (Int × Oct)} {xs : FdX} {f : Nat → Oct} {dflt : Oct} {low nb n : Nat} {vs : List Value} {t1 t2 : Tok},
  Site w A g s.heap → Led g s.heap (topLed ho bl fo ta oh vs n ofd ot) → (@Ne Nat ho bl ∧ @Ne Nat ho fo ∧ @Ne Nat ho ta ∧ @Ne Nat bl fo ∧ @Ne Nat bl ta ∧ @Ne Nat fo ta) → A.depth + 4 * d + 10 < recursionLimit → A.units + 4 * d + 20 < cLine →
  IsKB (intKind prog w) oh D → D.length ≤ 100 → (ho == sysModules) = false → Rep D f dflt low d → low % 2 ^ d = 0 → Blk T dflt nb vs → d < nb → nb ≤ 257 →
  FdObj prog w ofd xs → KeysAt prog w g xs → Abs xs low d → xs.length + D.length * (d + 1) ≤ 100000 → HashFn g fa ta → IsTbl prog w ot T → T.length + D.length * (d + 1) ≤ 100000 → (ta == sysModules) = false →
  (∀ b t xs' keys ofd' ot' T' h' tk', (∀ a o, g.get? a = some o → h'.get? a = some o) → (∀ a ∈ topLed ho bl fo ta oh vs n ofd' ot', h'.get? a.1 = some a.2) → (∀ p ∈ keys, h'.get? p.1 = some p.2 ∧ g.get? p.1 = none ∧ p.2.cls = .type "tuple") → KeyFrom prog w xs keys xs' → FdObj prog w ofd' xs' →
    Cov T' dflt xs' f low d → SameOut xs xs' low d → Ext (D.length * (d + 1)) T T' → IsTbl prog w ot' T' → Tr T' d (sub f low) b.toList → xs'.length ≤ xs.length + D.length * (d + 1) → R (.ok (.ret (.bytes b t))) { s with heap := h', toks := tk' }) →
  codeAny (model prog w) A (.call (.ref 170) ⟨[.ref ho, .int (low : Int) t1, .int (d : Int) t2, .ref bl, .ref fa, .ref fo], []⟩) R s
set_option maxHeartbeats 4000000 in
theorem top_zero (prog : Program) (w : World) : TopC prog w 0 := by
  intro A s g R fa ta bl fo ho ot ofd oh T D xs f dflt low nb n vs t1 t2 S hL hne hroom hun hD hDl lo1 hrep hal hblk hdn hnb hfd hkeys habs hxl H hot hsz lo ret
  refine enterKC (binds := [("held", .ref ho), ("low", .int (low : Int) t1), ("depth", .int ((0 : Nat) : Int) t2), ("blanks", .ref bl), ("hashing", .ref fa), ("found", .ref fo)]) S hL (by k_is) (by k_is) (by omega) (BindsTo.of_eq rfl) rfl (by decide +kernel) ?_ rfl rfl rfl
  intro base fr dp un gd pp loose mean mg mb L h₁ tk cells eA B X TT F N hY l1
  subst eA
  simp only [Ar] at hroom hun
  k_cells hY
  simp only [List.cons_append, List.nil_append, topLed] at N l1
  k_lt l1
  have hsz9 : T.length ≤ 1000000 := by omega
  k_steps
  · have hnil := hD9
    subst hnil
    have hrn := hrep.none
    with_reducible rename Fr _ _ _ _ => F9
    with_reducible rename News _ _ _ _ => N9
    exact ret bK uK xs [] ofd ot T _ _ F9.keep (fun q hq => (N9 q (.tail _ (.tail _ (.tail _ hq)))).1) (fun q hq => nomatch hq) (KeyFrom.refl xs) hfd (Cov.blank hrn habs) (fun _ _ _ => rfl) ((Ext.refl T).mono (Nat.zero_le _)) hot (hbK.congr fun i hi => by unfold cst sub; rw [Nat.add_comm]; exact (hrn i hi).symm) (Nat.le_add_right _ _)
  · with_reducible rename Fr _ _ _ _ => F9
    with_reducible rename News _ _ _ _ => N9
    refine pickO N9 fun kt okt e1 e2 => ?_
    subst e1 e2
    rw [hHd] at hbH
    have hc := Cov.leaf (dflt := dflt) (xs := xs) (a := kt) (t := tH) hxH hbH
    have hdl : 1 ≤ D.length := by
      cases D with
      | nil => exact absurd rfl hD9
      | cons _ _ => simp
    exact ret bH tH _ [(kt, _)] oFd oH TH _ _ F9.keep (fun q hq => (N9 q (.tail _ (.tail _ (.tail _ (.tail _ hq))))).1) (fun p hp => by rw [List.mem_singleton.mp hp]; exact ⟨(N9 _ (.head _)).1, (N9 _ (.head _)).2.2, rfl⟩)
      ((KeyFrom.refl xs).put keyObj2 _) hFd hc.1 hc.2 (hxH.mono (by omega)) hotH (by show hsh TH (f (0 + low)) = _; rw [Nat.zero_add]; exact hbH) (by have := storedH_len xs [(low : Int), ((0 : Nat) : Int)] kt (.bytes bH tH); omega)
inductive Upd2 (d1 d2 : Addr) (o1 o2 : Obj) : List (Addr × Obj) → (Obj → Obj → List (Addr × Obj)) → Prop
  | nil : Upd2 d1 d2 o1 o2 [] (fun _ _ => [])
  | one {r g} : Upd2 d1 d2 o1 o2 r g → Upd2 d1 d2 o1 o2 ((d1, o1) :: r) (fun a b => (d1, a) :: g a b)
  | two {r g} : Upd2 d1 d2 o1 o2 r g → Upd2 d1 d2 o1 o2 ((d2, o2) :: r) (fun a b => (d2, b) :: g a b)
  | skip {p r g} : @Ne Nat p.1 d1 ∧ @Ne Nat p.1 d2 → Upd2 d1 d2 o1 o2 r g → Upd2 d1 d2 o1 o2 (p :: r) (fun a b => p :: g a b)
  | rest {r} : (∀ p ∈ r, @Ne Nat p.1 d1 ∧ @Ne Nat p.1 d2) → Upd2 d1 d2 o1 o2 r (fun _ _ => r)
theorem Upd2.all {d1 d2 : Addr} {o1 o2 a b : Obj} {P : Addr × Obj → Prop} {news : List (Addr × Obj)} {g : Obj → Obj → List (Addr × Obj)} (U : Upd2 d1 d2 o1 o2 news g) (h : ∀ p ∈ news, p.1 ≠ d1 → p.1 ≠ d2 → P p) (h1 : P (d1, a)) (h2 : P (d2, b)) : ∀ p ∈ g a b, P p := by
  induction U with
  | nil => intro p hp; cases hp
  | one U ih =>
    intro p hp
    rcases List.mem_cons.mp hp with rfl | hp
    · exact h1
    · exact ih (fun q hq => h q (.tail _ hq)) p hp
  | two U ih =>
    intro p hp
    rcases List.mem_cons.mp hp with rfl | hp
    · exact h2
    · exact ih (fun q hq => h q (.tail _ hq)) p hp
  | skip hn U ih =>
    intro p hp
    rcases List.mem_cons.mp hp with rfl | hp
    · exact h _ (.head _) hn.1 hn.2
    · exact ih (fun q hq => h q (.tail _ hq)) p hp
  | rest hn => intro p hp; exact h p hp (hn p hp).1 (hn p hp).2
section
variable {prog : Program} {w : World} {A : Around} {E E' : Value → Shared → Prop} {s : Shared} {env : Env} {c : Addr} {co : Obj} {m : Str → Option Value}
theorem tests_cmp {op : CmpOp} {x y : Str} {p1 p2 p3 : Pos} {k mid : Int} {t u : Tok} {b : Bool} (hk : env.scope.kind = .function) (hx : env.kindOf x = some .local) (hy : env.kindOf y = some .cell) (hyc : env.cells.lookup y = some c) (hc : s.heap.get? c = some co) (hcd : co.data = .cell (some (.int mid u)))
    (hn : s.heap.Ns env.locals m) (hm : m x = some (.int k t)) (hbx : (x == ("__debug__" : Str)) = false) (hby : (y == ("__debug__" : Str)) = false) (hop : ∀ {Q : Value → Shared → Prop}, Q (.bool b) s → wpAny (model prog w) A (compareOp op (.int k t) (.int mid u)) Q E' s)
    (hb : behindInMarks op (.Name y p2) = false) :
    wpAny (model prog w) A (forIn [Expr.Compare (.Name x p1) [op] [.Name y p2] p3] true fun c r => if r = true then do let ok ← isTrue c env (eval c env); pure (ForInStep.yield ok) else pure (ForInStep.yield r))
      (fun ok s₄ => ok = b ∧ Keeps s s₄) E' s :=
  wpAny_tests_one (wpAny_isTrue_Compare1 (wpAny_Name (wpAny_loadName_local hk hx hn hm (wpAny_Name (wpAny_loadName_cell hk hy hyc ⟨co, hc, hcd⟩ (hop (wpAny_truthy_bool ⟨rfl, s.heap, s.toks, rfl, fun _ _ e => e⟩))) hby)) hbx) hb)
end
section
variable {prog : Program} {w : World} {A : Around} {s : Shared} {g : Heap} {E : Value → Shared → Prop} {L : Addr} {m : Str → Option Value} {base : Heap} {fr : List Env} {env : Env} {news : List (Addr × Obj)}
  {p : Program} {loose : List Str} {mean : ExcName → Option Value} {mg mb : Str → Option Value} {A₀ : Around} {Q : Value → Shared → Prop}
theorem call_top {d : Nat} (ih : TopC prog w d) {fa ta bl fo ho : Addr} {ot ofd oh : Obj} {T : List Oct} {D : List (Int × Oct)} {xs : FdX} {f : Nat → Oct} {dflt : Oct} {low nb n : Nat} {vs : List Value} {t1 t2 : Tok} {gn : Obj → Obj → List (Addr × Obj)}
    (B : Below A₀ base fr g) (F : Fr g L s.heap m) (X : (hd0.heap_1 w.params).In g) (TT : Top p loose mean mg mb g) (N : News g L s.heap news) (hA : A.frames = some (env :: fr)) (hf : env.frame = some L) (hke : env.scope.kind = .function) (hh : A.handled = none)
    (m1 : (ho, oh) ∈ news) (m2 : (bl, listOf vs.toArray n) ∈ news) (m3 : (fo, ofd) ∈ news) (m4 : (ta, ot) ∈ news) (U : Upd2 fo ta ofd ot news gn)
    (hne : @Ne Nat ho bl ∧ @Ne Nat ho fo ∧ @Ne Nat ho ta ∧ @Ne Nat bl fo ∧ @Ne Nat bl ta ∧ @Ne Nat fo ta) (hroom : A.depth + 4 * d + 10 < recursionLimit) (hun : A.units + 4 * d + 20 < cLine)
    (hD : IsKB (intKind prog w) oh D) (hDl : D.length ≤ 100) (lo1 : (ho == sysModules) = false) (hrep : Rep D f dflt low d) (hal : low % 2 ^ d = 0) (hblk : Blk T dflt nb vs) (hdn : d < nb) (hnb : nb ≤ 257)
    (hfd : FdObj prog w ofd xs) (hkeys : KeysAt prog w (hideAll s.heap [ho, bl, fo, ta]) xs) (habs : Abs xs low d) (hxl : xs.length + D.length * (d + 1) ≤ 100000) (H : HashFn (hideAll s.heap [ho, bl, fo, ta]) fa ta) (hot : IsTbl prog w ot T) (hsz : T.length + D.length * (d + 1) ≤ 100000) (lo : (ta == sysModules) = false)
    (h : ∀ b t xs' keys ofd' ot' T' h' tk', Fr g L h' m → News g L h' (gn ofd' ot' ++ keys) → (∀ p ∈ keys, p.2.cls = .type "tuple") → (∀ p ∈ keys, @Ne Nat p.1 fo ∧ @Ne Nat p.1 ta) → KeyFrom prog w xs keys xs' → FdObj prog w ofd' xs' →
      Cov T' dflt xs' f low d → SameOut xs xs' low d → Ext (D.length * (d + 1)) T T' → IsTbl prog w ot' T' → Tr T' d (sub f low) b.toList → b.toList.length = 32 → xs'.length ≤ xs.length + D.length * (d + 1) → Q (.bytes b t) { s with heap := h', toks := tk' }) :
    wpAny (model prog w) A (call (.ref 170) [.ref ho, .int (low : Int) t1, .int (d : Int) t2, .ref bl, .ref fa, .ref fo]) Q E s := by
  have hl : ∀ q ∈ topLed ho bl fo ta oh vs n ofd ot, q ∈ news := led4 m1 m2 m3 m4
  obtain ⟨S, hL⟩ := site_of B F X TT (led := _) (fun q hq => N q (hl q hq)) hA hf hke hh
  refine wpAny_call (ih S hL hne hroom hun hD hDl lo1 hrep hal hblk hdn hnb hfd hkeys habs hxl H hot hsz lo fun b t xs' keys ofd' ot' T' h' tk' k kl kk e1 e2 e3 e4 e5 e6 e7 e8 => ?_)
  have hho := kl (ho, oh) (.head _)
  have hbl := kl (bl, listOf vs.toArray n) (.tail _ (.head _))
  have hfo := kl (fo, ofd') (.tail _ (.tail _ (.head _)))
  have hta := kl (ta, ot') (.tail _ (.tail _ (.tail _ (.head _))))
  have hcf : ofd'.cls = .type "dict" := let ⟨_, _, hx, _⟩ := e2; hx.1
  have hct : ot'.cls = .type "dict" := IsKB.cls e6
  have nek : ∀ p ∈ keys, @Ne Nat p.1 fo ∧ @Ne Nat p.1 ta := fun p hp => by
    obtain ⟨k1, _, k3⟩ := kk p hp
    refine ⟨fun e => ?_, fun e => ?_⟩
    · have e' : p.1 = fo := e
      rw [e', hfo] at k1
      rw [← Option.some.inj k1, hcf] at k3
      simp at k3
    · have e' : p.1 = ta := e
      rw [e', hta] at k1
      rw [← Option.some.inj k1, hct] at k3
      simp at k3
  refine h b t xs' keys ofd' ot' T' h' tk' (fr_back F (fun q hq => N q (hl q hq)) k) (fun a ha => ?_) (fun p hp => (kk p hp).2.2) nek e1 e2 e3 e4 e5 e6 e7 e7.len e8
  rcases List.mem_append.mp ha with ha | ha
  · refine U.all (P := fun p => h'.get? p.1 = some p.2 ∧ p.1 ≠ L ∧ g.get? p.1 = none) (fun q hq n1 n2 => ⟨?_, (N q hq).2⟩) ⟨hfo, (N _ m3).2⟩ ⟨hta, (N _ m4).2⟩ a ha
    by_cases hm : q.1 ∈ (topLed ho bl fo ta oh vs n ofd ot).map (·.1)
    · simp only [topLed, List.map_cons, List.map_nil, List.mem_cons, List.not_mem_nil, or_false] at hm
      rcases hm with e | e | e | e
      · have z := (N q hq).1
        rw [e, (N _ m1).1] at z
        rw [e, hho, Option.some.inj z]
      · have z := (N q hq).1
        rw [e, (N _ m2).1] at z
        rw [e, hbl, Option.some.inj z]
      · exact absurd e n1
      · exact absurd e n2
    · exact k _ _ (hideAll_get _ (N q hq).1 hm)
  · obtain ⟨k1, k2, k3⟩ := kk a ha
    refine ⟨k1, fun e => ?_, ?_⟩
    · obtain ⟨oL, es, ep, hLo, hd', _⟩ := F.ns
      have nL : L ∉ (topLed ho bl fo ta oh vs n ofd ot).map (·.1) := fun q => by
        obtain ⟨p, hp, e⟩ := List.mem_map.mp q
        exact (N p (hl p hp)).2.1 e
      rw [e, hideAll_get _ hLo nL] at k2
      cases k2
    · cases q : g.get? a.1 with
      | none => rfl
      | some o => rw [hideAll_get _ (F.keep _ _ q) (hide_notin N hl (by rw [q]; simp))] at k2; cases k2
end
end -- S20
section -- S21
theorem lines_s21_1 : True := by
  w_top off
  k_with_none
  (k_with "exec For Name Call cons nil" => (refine stop ?_))
  (k_with "exec For Name Call" => (refine stop ?_))
  (k_with "pyIter ref" => (refine stop ?_))
  (k_with "k_room" => (((try simp only [depth_under_make, depth_under_kw, depth_in1, depth_deeper, depth_caller]); omega)))
  (k_with "compareOp NotEq int int" => (refine ne_same ?_))
  (k_with "call ref" => ((k_here; (with_reducible show wpAny _ _ (call (Value.ref _) [Value.bytes _ _, Value.str _ _]) _ _ _); k_dflt (refine' from_big ?q6N ?q6m ?q6l ?q6p ?_; (case q6N => k_asm); (case q6m => k_mem); (case q6l => omega); (case q6p => assumption)); intro t' k')))
  (k_with "z cj" => (first | with_reducible assumption | exact And.left (by with_reducible assumption) | exact And.left (And.right (by with_reducible assumption)) | exact And.left (And.right (And.right (by with_reducible assumption))) | exact And.left (And.right (And.right (And.right (by with_reducible assumption)))) | exact And.left (And.right (And.right (And.right (And.right (by with_reducible assumption))))) | exact And.left (And.right (And.right (And.right (And.right (And.right (by with_reducible assumption)))))) | exact And.left (And.right (And.right (And.right (And.right (And.right (And.right (by with_reducible assumption))))))) | exact And.left (And.right (And.right (And.right (And.right (And.right (And.right (And.right (by with_reducible assumption)))))))) | exact And.right (by with_reducible assumption) | exact And.right (And.right (by with_reducible assumption)) | exact And.right (And.right (And.right (by with_reducible assumption))) | exact And.right (And.right (And.right (And.right (by with_reducible assumption)))) | exact And.right (And.right (And.right (And.right (And.right (by with_reducible assumption))))) | exact And.right (And.right (And.right (And.right (And.right (And.right (by with_reducible assumption)))))) | exact And.right (And.right (And.right (And.right (And.right (And.right (And.right (by with_reducible assumption)))))))))
  (k_with "z ne1" => (first | k_extra "z cj" | (refine Ne.symm ?_; k_extra "z cj") | exact AllNe.at1 (by with_reducible assumption) (by k_mem) | exact AllNe.at2 (by with_reducible assumption) (by k_mem) | omega))
  (k_with "k_ne" => ((refine PySem.W.neN ?_; (try dsimp only); k_extra "z ne1")))
  (k_with "execs cons" => (((with_reducible show wpAny _ _ (execs (Stmt.Assign _ _ _ :: _) _) _ _ _); refine execsGen fun P8 hP8 => ?_)))
  (k_with "execs cons" => (((with_reducible show wpAny _ _ (execs (Stmt.Expr _ _ :: _) _) _ _ _); refine execsGen fun P8 hP8 => ?_)))
  (k_with "execs cons" => (((with_reducible show wpAny _ _ (execs (Stmt.AugAssign _ _ _ _ :: _) _) _ _ _); refine execsGen fun P8 hP8 => ?_)))
  (k_with "FinQ" => ((refine finOut (by with_reducible assumption) ?_; (try dsimp only))))
  (k_with "call ref" => ((k_here; (with_reducible show wpAny _ _ (call (Value.ref 34) [Value.bytes _ _]) _ _ _); k_dflt (refine' call_valid_bytes ?q7B ?q7F ?q7X ?q7T ?q7N ?q7c1 ?q7c2 ?q7c3 ?q7c4 ?q7r ?_; (case q7F => k_asm); (case q7N => k_asm); (case q7B => k_asm); (case q7X => k_asm); (case q7T => k_asm); (case q7c1 => exact rfl); (case q7c2 => exact rfl); (case q7c3 => exact rfl); (case q7c4 => exact rfl); (case q7r => k_room)); intro h' tk' F' N'; (try k_sweep))))
  (k_with "call ref" => ((k_here; (with_reducible show wpAny _ _ (call (Value.ref 41) [Value.bytes _ _, Value.int _ _]) _ _ _); k_dflt (refine' call_valid_length ?q8B ?q8F ?q8X ?q8T ?q8N ?q8c1 ?q8c2 ?q8c3 ?q8c4 ?q8r ?q8z ?q8n ?_; (case q8F => k_asm); (case q8N => k_asm); (case q8B => k_asm); (case q8X => k_asm); (case q8T => k_asm); (case q8c1 => exact rfl); (case q8c2 => exact rfl); (case q8c3 => exact rfl); (case q8c4 => exact rfl); (case q8r => k_room); (case q8z => omega); (case q8n => omega)); intro h' tk' F' N'; (try k_sweep))))
  (k_with "getMethod type:int" => ((k_here; k_dflt (refine' KFB.getm ?q9kfbF ?q9kfbN ?q9kfbX (find_fb _) ?_; (case q9kfbF => k_asm); (case q9kfbN => k_asm); (case q9kfbX => k_asm); k_whole; intro x' h' F' N' l1; (try k_lt l1); (try k_sweep)))))
  (k_with "eval Name" => ((k_here; k_dflt (refine' nameX_L ?q10F ?q10v ?_ ?q10a ?q10b; (case q10a => rfl); (case q10b => rfl); (case q10F => k_asm); (case q10v => assumption); k_whole))))
  (k_with "subscriptTail" => ((k_here; (with_reducible show wpAny _ _ (subscriptTail _ _ (Value.ref _) (Value.bytes _ _)) _ _ _); k_dflt (refine' kb_item ?q11N ?q11p ?q11d (bk_is _ _) ?q11l ?_; (case q11N => k_asm); (case q11p => k_mem); (case q11d => assumption); (case q11l => assumption); (intro b' t' hb')))))
  (k_with "subscriptTail" => ((k_here; (with_reducible show wpAny _ _ (subscriptTail _ (Expr.Slice none _ none _) (Value.bytes _ _) (Value.ref _)) _ _ _); (with_reducible rename Fr _ _ _ _ => F'); (with_reducible rename News _ _ _ _ => N'); (refine cut_lo (s := ⟨_, _, _, _, _⟩) F' N' (by assumption) (by assumption) (by assumption) ?_); intro _ _ _ _ _ _ _)))
  (k_with "subscriptTail" => ((k_here; (with_reducible show wpAny _ _ (subscriptTail _ (Expr.Slice _ none none _) (Value.bytes _ _) (Value.ref _)) _ _ _); (with_reducible rename Fr _ _ _ _ => F'); (with_reducible rename News _ _ _ _ => N'); (refine cut_hi (s := ⟨_, _, _, _, _⟩) F' N' (by assumption) (by assumption) (by assumption) ?_); intro _ _ _ _ _ _ _)))
  (k_with "binaryOp BitAnd int int" => ((k_here; refine and_bit (by assumption) (fun hbit hpos => ?_) (fun hbit => ?_))))
  (k_with "loadName" => ((k_here; k_dflt (refine' ldn ?q12F ?q12v ?_ ?q12a ?q12b; (case q12a => rfl); (case q12b => rfl); (case q12F => k_asm); (case q12v => assumption); k_whole))))
  (k_with "truthy int" => ((refine truthy_pos (by assumption) ?_)))
  (k_with "hash1" => (exact HashFn.at1 (by assumption) (by k_asm) (by k_asm) (by k_mem)))
  (k_with "callWith ref" => ((k_here; k_dflt (refine' callWith_F ?q13k1 ?_; (case q13k1 => exact HashFn.fnAt (by assumption) (by k_asm)); k_whole))))
  (k_with "FnAt" => (exact HashFn.fnAt (by assumption) (by k_asm)))
  (k_with "And" => (((with_reducible show FnAt _ _ ∧ _); refine ⟨HashFn.fnAt (by assumption) (by k_asm), ?_⟩; try dsimp only [List.nil_append, List.cons_append])))
  (k_with "nm_m10_1" => (intro bH tH h' tk' oH TH F' N' hxH hbH hlH hotH))
  (k_with "nm_m10_2" => ((try dsimp only at N')))
  (k_with "call ref" => ((k_here; (with_reducible show wpAny _ _ (call (Value.ref _) [Value.bytes _ _]) _ _ _); k_dflt (refine' call_hash ?q14B ?q14F ?q14X ?q14T ?q14N ?q14c1 ?q14c2 ?q14c3 ?q14c4 ?q14H ?q14ot ?q14U ?q14z ?q14r ?q14lo ?_; (case q14F => k_asm); (case q14N => k_asm); (case q14B => k_asm); (case q14X => k_asm); (case q14T => k_asm); (case q14c1 => exact rfl); (case q14c2 => exact rfl); (case q14c3 => exact rfl); (case q14c4 => exact rfl); (case q14H => k_extra "hash1"); (case q14ot => assumption); (case q14U => k_updF); (case q14z => omega); (case q14r => k_room); (case q14lo => assumption)); k_extra "nm_m10_1"; k_extra "nm_m10_2"; (try k_sweep))))
  (k_with "call ref" => ((k_here; (with_reducible show wpAny _ _ (call (Value.ref 34) [Value.bytes _ _]) _ _ _); k_dflt (refine' call_valid_bytes ?q7B ?q7F ?q7X ?q7T ?q7N ?q7c1 ?q7c2 ?q7c3 ?q7c4 ?q7r ?_; (case q7F => k_asm); (case q7N => k_asm); (case q7B => k_asm); (case q7X => k_asm); (case q7T => k_asm); (case q7c1 => exact rfl); (case q7c2 => exact rfl); (case q7c3 => exact rfl); (case q7c4 => exact rfl); (case q7r => k_room)); intro h' tk' F' N'; (try k_sweep))))
  (k_with "nm_m10_3" => (intro rG qG bvsG vG bsG nG n2G h' tk' F' N' hrG hqG hqrG hoG hsG hvG))
  (k_with "nm_m10_4" => ((have hrG9 := hrG; have hqG9 := hqG; simp only [AllNe, and_true] at hrG hqG)))
  (k_with "call ref" => ((k_here; (with_reducible show wpAny _ _ (call (Value.ref 88) [Value.ref _, Value.bytes _ _]) _ _ _); k_dflt (refine' call_get ?q15B ?q15F ?q15X ?q15T ?q15N ?q15c1 ?q15c2 ?q15c3 ?q15c4 ?q15m1 ?q15m2 ?q15m3 ?q15ne ?q15r ?q15s1 ?q15s2 ?q15ky ?q15hp ?q15hp2 ?q15db ?q15hin ?_; (case q15F => k_asm); (case q15N => k_asm); (case q15B => k_asm); (case q15X => k_asm); (case q15T => k_asm); (case q15c1 => exact rfl); (case q15c2 => exact rfl); (case q15c3 => exact rfl); (case q15c4 => exact rfl); (case q15m1 => k_mem); (case q15m2 => k_mem); (case q15m3 => k_mem); (case q15ne => (refine ⟨?_, ?_, ?_⟩ <;> k_ne)); (case q15r => k_room); (case q15s1 => omega); (case q15s2 => omega); (case q15ky => assumption); (case q15hp => assumption); (case q15hp2 => assumption); (case q15db => assumption); (case q15hin => assumption)); k_extra "nm_m10_3"; k_extra "nm_m10_4"; (try k_sweep))))
  (k_with "nm_m10_5" => ((intro DR h' tk' F' N' l1; (try k_lt l1))))
  (k_with "call type:reversed" => ((k_here; (with_reducible show wpAny _ _ (call (Value.type _) [Value.ref _]) _ _ _); k_dflt (refine' reversed_tup ?q16F ?q16N ?q16m ?q16z ?_; (case q16F => k_asm); (case q16N => k_asm); (case q16m => k_mem); (case q16z => assumption)); k_extra "nm_m10_5"; (try k_sweep))))
  (k_with "nm_m10_6" => (intro h' oS F' N' hdS))
  (k_with "nm_m10_7" => ((try dsimp only at N')))
  (k_with "setItem ref bytes" => ((k_here; (with_reducible show wpAny _ _ (setItem (Value.ref _) (Value.bytes _ _) (Value.bytes _ _)) _ _ _); k_dflt (refine' kb_set ?q17F ?q17N ?q17U ?q17d (bk_is _ _) ?q17z ?_; (case q17F => k_asm); (case q17N => k_asm); (case q17U => k_updF); (case q17d => assumption); (case q17z => (simp only [sizeLine_eq]; omega)); (k_extra "nm_m10_6"); k_extra "nm_m10_7"))))
  (k_with "nm_m10_8" => (intro dA tA kA hdA))
  (k_with "binaryOp Add bytes bytes" => ((k_here; (with_reducible show wpAny _ _ (binaryOp Operator.Add (Value.bytes _ _) (Value.bytes _ _)) _ _ _); refine add_octs (by assumption) (by assumption) ?_; k_extra "nm_m10_8")))
  (k_with "nm_m10_9" => (intro tA kA))
  (k_with "inplaceOp LShift int int" => ((k_here; refine shl_pow (by assumption) (by omega) ?_; k_extra "nm_m10_9")))
  (k_with "allne" => ((simp only [AllNe, and_true]; (repeat' apply And.intro) <;> k_extra "z ne1")))
  (k_with "nm_m10_10" => ((intro DT h' tk' F' N' l1; (try k_lt l1))))
  (k_with "call type:tuple" => ((k_here; (with_reducible show wpAny _ _ (call (Value.type _) [Value.ref _]) _ _ _); k_dflt (refine' tuple_rev ?q18hh ?q18F ?q18N ?q18m ?q18c ?q18d ?q18ne ?q18z ?_; (case q18hh => exact rfl); (case q18F => k_asm); (case q18N => k_asm); (case q18m => k_mem); (case q18c => exact rfl); (case q18d => exact rfl); (case q18ne => k_extra "allne"); (case q18z => assumption)); k_extra "nm_m10_10"; (try k_sweep))))
  (k_with "subscriptTail" => ((k_here; (with_reducible show wpAny _ _ (subscriptTail _ _ (Value.ref _) (Value.int (-1) _)) _ _ _); k_dflt (refine' listItems_neg ?q30N ?q30m ?q30z ?_; (case q30N => k_asm); (case q30m => k_mem); (case q30z => assumption)))))
  (k_with "k_un" => (((try simp only [units_deeper, units_in1, units_Ar]); omega)))
  (k_with "nm_eqe" => (intro hD9))
  (k_with "compareOp Eq ref ref" => ((k_here; k_dflt (refine' eq_empty (knd := intKind _ _) ?q31N ?q31m1 ?q31m2 ?q31da ?q31db ?q31la ?q31lb ?q31hu ?_ ?_; (case q31N => k_asm); (case q31m1 => k_mem); (case q31m2 => k_mem); (case q31da => assumption); (case q31db => assumption); (case q31la => assumption); (case q31lb => assumption); (case q31hu => k_extra "k_un")); (all_goals k_extra "nm_eqe"))))
  (k_with "nm_blk" => (intro bK uK hbK))
  (k_with "subscriptTail" => ((k_here; (with_reducible show wpAny _ _ (subscriptTail _ _ (Value.ref _) (Value.int _ _)) _ _ _); k_dflt (refine' item_blk ?q32N ?q32m ?q32b ?q32d ?q32n ?_; (case q32N => k_asm); (case q32m => k_mem); (case q32b => assumption); (case q32d => omega); (case q32n => assumption)); k_extra "nm_blk")))
  (k_with "nm_held" => (intro bHd tHd hHd))
  (k_with "subscriptTail" => ((k_here; (with_reducible show wpAny _ _ (subscriptTail _ _ (Value.ref _) (Value.int _ _)) _ _ _); k_dflt (refine' kb_item (knd := intKind _ _) ?q33N ?q33p ?q33d (intKind_is _ _ _ _) ?q33l ?_; (case q33N => k_asm); (case q33p => k_mem); (case q33d => assumption); (case q33l => exact Rep.leaf (by assumption) (by assumption))); k_extra "nm_held")))
  (k_with "nm_fd" => ((intro h' oFd tk' F' N' hFd; (try dsimp only at N'))))
  (k_with "setItem ref ref" => ((k_here; k_dflt (refine' fd_set ?q34F ?q34N ?q34U ?q34fd ?q34k ?q34kt ?q34un ?q34z ?_; (case q34F => k_asm); (case q34N => k_asm); (case q34fd => assumption); (case q34U => k_updF); (case q34kt => k_mem); (case q34k => first | assumption | exact KeysAt.keeps (by assumption) (Fr.keep (by k_asm))); (case q34un => k_extra "k_un"); (case q34z => omega)); k_extra "nm_fd")))
  trivial
section
variable {prog : Program} {w : World} {A : Around} {E : Value → Shared → Prop} {s : Shared}
theorem sub_as {a b c : Int} {t u : Tok} {Q : Value → Shared → Prop} (e : a - b = c) (h : ∀ t' k, Q (.int c t') { s with toks := k }) : wpAny (model prog w) A (binaryOp .Sub (.int a t) (.int b u)) Q E s := by
  subst e; exact sub_int (h _ _)
theorem add_as {a b c : Int} {t u : Tok} {Q : Value → Shared → Prop} (e : a + b = c) (h : ∀ t' k, Q (.int c t') { s with toks := k }) : wpAny (model prog w) A (binaryOp .Add (.int a t) (.int b u)) Q E s := by
  subst e; exact add_int (h _ _)
theorem eq_no {a b : Int} {t u : Tok} {Q : Value → Shared → Prop} (e : a ≠ b) (h : Q (.bool false) s) : wpAny (model prog w) A (compareOp .Eq (.int a t) (.int b u)) Q E s := by
  refine eq_int ?_
  have : (a == b) = false := by simpa using e
  rw [this]; exact h
end
theorem site_keep {g h : Heap} {L : Addr} {m : Str → Option Value} {news : List (Addr × Obj)} (F : Fr g L h m) (N : News g L h news) (led : List (Addr × Obj)) (hl : ∀ p ∈ led, p ∈ news) : ∀ b o, g.get? b = some o → (hideAll h (led.map (·.1))).get? b = some o :=
  fun b o q => hideAll_get _ (F.keep b o q) (hide_notin N hl (by rw [q]; simp))
theorem ne_tuple {g h : Heap} {L a : Addr} {oa : Obj} {news : List (Addr × Obj)} (N : News g L h news) {p : Addr × Obj} (hp : p ∈ news) (hc : p.2.cls = .type "tuple") (hm : (a, oa) ∈ news) (ha : oa.cls = .type "dict" ∨ oa.cls = .type "list") : p.1 ≠ a := fun e => by
  have h1 := (N p hp).1
  rw [e, (N _ hm).1] at h1
  rw [← Option.some.inj h1] at hc
  rcases ha with q | q <;> (rw [q] at hc; simp at hc)
theorem filter_two {α : Type} (p q : α → Bool) (h : ∀ a, q a = !p a) : ∀ l : List α, (l.filter p).length + (l.filter q).length = l.length
  | [] => rfl
  | a :: r => by
    have ih := filter_two p q h r
    rw [List.filter_cons, List.filter_cons, h a]
    cases p a <;> simp <;> omega
theorem FdObj.cls {prog : Program} {w : World} {o : Obj} {xs : FdX} (h : FdObj prog w o xs) : o.cls = .type "dict" := let ⟨_, _, hx, _⟩ := h; hx.1
theorem mid_al {low d : Nat} (h : low % 2 ^ d = 0) : (low + 2 ^ d) % 2 ^ d = 0 := by rw [Nat.add_mod_right]; exact h
theorem lines_s21_2 : True := by
  (k_with "binaryOp Sub int int" => ((k_here; refine sub_as (by assumption) ?_; intro t' k')))
  (k_with "binaryOp Add int int" => ((k_here; refine add_as (by assumption) ?_; intro t' k')))
  (k_with "cmp_lt" => ((intro C k t s3 m3 E3 hk3 hn3 hm3 hup3; refine' tests_cmp ?q35a ?q35b ?q35c ?q35e ?q35f ?q35g hn3 hm3 ?q35h ?q35i ?q35j ?q35k; (case q35a => with_unfolding_all rfl); (case q35b => with_unfolding_all rfl); (case q35c => with_unfolding_all rfl); (case q35e => with_unfolding_all rfl); (case q35f => (refine' hup3 _ _ (News.get ?q35n ?q35mm); (case q35n => k_asm); (case q35mm => k_mem))); (case q35g => k_asm); (case q35h => decide); (case q35i => decide); (case q35j => exact fun h => lt_int h); (case q35k => with_unfolding_all rfl))))
  (k_with "cmp_ge" => ((intro C k t s3 m3 E3 hk3 hn3 hm3 hup3; refine' tests_cmp ?q36a ?q36b ?q36c ?q36e ?q36f ?q36g hn3 hm3 ?q36h ?q36i ?q36j ?q36k; (case q36a => with_unfolding_all rfl); (case q36b => with_unfolding_all rfl); (case q36c => with_unfolding_all rfl); (case q36e => with_unfolding_all rfl); (case q36f => (refine' hup3 _ _ (News.get ?q36n ?q36mm); (case q36n => k_asm); (case q36mm => k_mem))); (case q36g => k_asm); (case q36h => decide); (case q36i => decide); (case q36j => exact fun h => ge_int h); (case q36k => with_unfolding_all rfl))))
  (k_with "nm_lt" => ((intro aLt h' oLt tk' F' N' l1 hLt loLt; (try k_lt l1))))
  (k_with "nm_ge" => ((intro aGe h' oGe tk' F' N' l1 hGe loGe; (try k_lt l1))))
  (k_with "do_ge" => ((unfold Stop; (k_here; k_dflt (refine' dict_sub_assign ?q37F ?q37N ?q37L ?q37hh ?q37big ?q37sw ?q37clos ?q37cell ?q37kind ?q37names ?q37x ?q37y ?q37p ?q37m ?q37d ?q37lo ?q37z ?q37dk ?q37dc ?q37cm ?q37cd ?q37bx ?q37bd ?q37tests ?q37it ?_ ?q37hs; (case q37F => k_asm); (case q37N => k_asm); (case q37L => with_unfolding_all rfl); (case q37hh => exact rfl); (case q37big => exact Top.nolimit (by k_asm)); (case q37sw => with_unfolding_all rfl); (case q37clos => with_unfolding_all rfl); (case q37cell => decide); (case q37kind => exact rfl); (case q37names => decide); (case q37x => exact rfl); (case q37y => with_unfolding_all rfl); (case q37p => with_unfolding_all rfl); (case q37dc => with_unfolding_all rfl); (case q37cm => k_mem); (case q37cd => k_asm); (case q37m => k_mem); (case q37d => assumption); (case q37lo => assumption); (case q37z => omega); (case q37dk => (intro C; with_unfolding_all rfl)); (case q37bx => decide); (case q37bd => decide); (case q37tests => k_extra "cmp_ge"); (case q37it => (refine' nameX_C ?q37yn ?q37yc ?q37ym ?q37yd ?q37yq ?q37y1 ?q37y2 ?q37y3; (case q37yn => k_asm); (case q37yc => with_unfolding_all rfl); (case q37ym => k_mem); (case q37yd => k_asm); (case q37yq => exact ⟨rfl, rfl⟩); (case q37y1 => with_unfolding_all rfl); (case q37y2 => with_unfolding_all rfl); (case q37y3 => decide))); (case q37hs => (intro _; rfl))); k_extra "nm_ge"))))
  (k_with "do_lt" => ((unfold Stop; (k_here; k_dflt (refine' dict_sub_assign ?q38F ?q38N ?q38L ?q38hh ?q38big ?q38sw ?q38clos ?q38cell ?q38kind ?q38names ?q38x ?q38y ?q38p ?q38m ?q38d ?q38lo ?q38z ?q38dk ?q38dc ?q38cm ?q38cd ?q38bx ?q38bd ?q38tests ?q38it ?_ ?q38hs; (case q38F => k_asm); (case q38N => k_asm); (case q38L => with_unfolding_all rfl); (case q38hh => exact rfl); (case q38big => exact Top.nolimit (by k_asm)); (case q38sw => with_unfolding_all rfl); (case q38clos => with_unfolding_all rfl); (case q38cell => decide); (case q38kind => exact rfl); (case q38names => decide); (case q38x => exact rfl); (case q38y => with_unfolding_all rfl); (case q38p => with_unfolding_all rfl); (case q38dc => with_unfolding_all rfl); (case q38cm => k_mem); (case q38cd => k_asm); (case q38m => k_mem); (case q38d => assumption); (case q38lo => assumption); (case q38z => omega); (case q38dk => (intro C; with_unfolding_all rfl)); (case q38bx => decide); (case q38bd => decide); (case q38tests => k_extra "cmp_lt"); (case q38it => (refine' nameX_C ?q38yn ?q38yc ?q38ym ?q38yd ?q38yq ?q38y1 ?q38y2 ?q38y3; (case q38yn => k_asm); (case q38yc => with_unfolding_all rfl); (case q38ym => k_mem); (case q38yd => k_asm); (case q38yq => exact ⟨rfl, rfl⟩); (case q38y1 => with_unfolding_all rfl); (case q38y2 => with_unfolding_all rfl); (case q38y3 => decide))); (case q38hs => (intro _; rfl))); k_extra "nm_lt"))))
  (k_with "compareOp Eq int int" => ((k_here; refine eq_no (by assumption) ?_)))
  (k_with "exec Assign cons DictComp" => (refine stop ?_))
  (k_with "k_upd2" => (first | exact Upd2.nil | (refine' Upd2.one ?q39a; (case q39a => k_extra "k_upd2")) | (refine' Upd2.two ?q39a; (case q39a => k_extra "k_upd2")) | (refine' Upd2.skip ?q39n ?q39a; (case q39n => (refine ⟨?_, ?_⟩ <;> k_ne)); (case q39a => k_extra "k_upd2")) | (refine' Upd2.rest ?q39a; (case q39a => assumption))))
  (k_with "call ref" => ((k_here; (with_reducible show wpAny _ _ (call (Value.ref 170) _ _) _ _ _); refine stop ?_)))
  (k_with "k_all" => (first | exact List.forall_mem_nil _ | assumption | (refine' List.forall_mem_cons.mpr ⟨?q40a, ?q40b⟩; (case q40a => k_ne); (case q40b => k_all))))
  (k_with "setItem ref ref" => ((k_here; (with_reducible show wpAny _ _ (setItem (Value.ref _) (Value.ref _) (Value.bytes _ _)) _ _ _); refine stop ?_)))
  trivial
set_option maxHeartbeats 4000000 in
theorem top_succ (prog : Program) (w : World) (d : Nat) (ih : TopC prog w d) : TopC prog w (d + 1) := by
  intro A s g R fa ta bl fo ho ot ofd oh T D xs f dflt low nb n vs t1 t2 S hL hne hroom hun hD hDl lo1 hrep hal hblk hdn hnb hfd hkeys habs hxl H hot hsz lo ret
  refine enterKC (binds := [("held", .ref ho), ("low", .int (low : Int) t1), ("depth", .int ((d + 1 : Nat) : Int) t2), ("blanks", .ref bl), ("hashing", .ref fa), ("found", .ref fo)]) S hL (by k_is) (by k_is) (by omega) (BindsTo.of_eq rfl) rfl (by decide +kernel) ?_ rfl rfl rfl
  intro base fr dp un gd pp loose mean mg mb L h₁ tk cells eA B X TT F N hY l1
  subst eA
  refine wpGenE fun E8 hE8 => ?_
  simp only [Ar] at hroom hun
  k_cells hY
  simp only [List.cons_append, List.nil_append, topLed] at N l1
  k_lt l1
  have hsz9 : T.length ≤ 1000000 := by omega
  have e9 : ((d + 1 : Nat) : Int) - 1 = (d : Int) := by omega
  have e8 : (low : Int) + 2 ^ ((d : Int)).toNat = ((low + 2 ^ d : Nat) : Int) := by simp
  have hd26 : (d : Int) ≤ 1000000 := by omega
  have hdpos : ((d + 1 : Nat) : Int) ≠ 0 := by omega
  k_steps
  rotate_left
  k_extra "do_lt"
  k_steps
  k_extra "do_ge"
  k_steps
  unfold Stop
  have hn2 := filter_two (fun p : Int × Oct => decide (p.1 < ((low + 2 ^ d : Nat) : Int))) (fun p => decide (((low + 2 ^ d : Nat) : Int) ≤ p.1)) (fun p => by rw [← decide_not]; exact decide_eq_decide.mpr (by omega)) D
  have hD1 : 1 ≤ D.length := by
    cases D with
    | nil => exact absurd rfl hD9
    | cons _ _ => simp
  have hp1 : (D.filter fun p => decide (p.1 < ((low + 2 ^ d : Nat) : Int))).length * (d + 1) + (D.filter fun p => decide (((low + 2 ^ d : Nat) : Int) ≤ p.1)).length * (d + 1) = D.length * (d + 1) := by rw [← Nat.add_mul, hn2]
  have hp2 : D.length * (d + 1 + 1) = D.length * (d + 1) + D.length := Nat.mul_succ _ _
  have hal1 : low % 2 ^ d = 0 := by
    have : 2 ^ d ∣ 2 ^ (d + 1) := ⟨2, Nat.pow_succ ..⟩
    exact Nat.mod_eq_zero_of_dvd (Nat.dvd_trans this (Nat.dvd_of_mod_eq_zero hal))
  with_reducible rename Fr _ _ _ _ => F1
  with_reducible rename News _ _ _ _ => N1
  refine' call_top ih B F1 X TT N1 rfl rfl rfl rfl ?m1 ?m2 ?m3 ?m4 ?U ?ne ?room ?un hLt ?dl loLt hrep.left hal1 hblk ?dn hnb hfd ?keys habs.left ?xl ?H hot ?z lo ?_
  case m1 => k_mem
  case m2 => k_mem
  case m3 => k_mem
  case m4 => k_mem
  case U => k_extra "k_upd2"
  case ne => (refine ⟨?_, ?_, ?_, ?_, ?_, ?_⟩ <;> k_ne)
  case room => k_room
  case un => k_extra "k_un"
  case dl => omega
  case dn => omega
  case keys => exact hkeys.keeps (site_keep F1 N1 [(aLt, oLt), (bl, listOf vs.toArray n), (fo, ofd), (ta, ot)] (led4 (by k_mem) (by k_mem) (by k_mem) (by k_mem)))
  case xl => omega
  case H => exact HashFn.at4 H F1 N1 (by k_mem) (by k_mem) (by k_mem) (by k_mem)
  case z => omega
  intro b1 u1 xs1 keys1 ofd1 ot1 T1 h1 tk1 F2 N2 hc1 hn1 kf1 fd1 cov1 so1 ex1 ht1 tr1 len1 ll1
  try dsimp only at N2
  simp only [List.cons_append, List.nil_append] at N2
  k_steps
  rotate_left
  · have hnil := hD9
    subst hnil
    have hrn := hrep.none
    with_reducible rename Fr _ _ _ _ => F9
    with_reducible rename News _ _ _ _ => N9
    exact ret bK uK xs [] ofd ot T _ _ F9.keep (fun q hq => (N9 q (.tail _ (.tail _ (.tail _ hq)))).1) (fun q hq => nomatch hq) (KeyFrom.refl xs) hfd (Cov.blank hrn habs) (fun _ _ _ => rfl) ((Ext.refl T).mono (Nat.zero_le _)) hot (hbK.congr fun i hi => by unfold cst sub; rw [Nat.add_comm]; exact (hrn i hi).symm) (Nat.le_add_right _ _)
  unfold Stop
  have ne1 : ∀ p ∈ keys1, p.1 ∉ ([(aGe, oGe), (bl, listOf vs.toArray n), (fo, ofd1), (ta, ot1)] : List (Addr × Obj)).map (·.1) := fun p hp hm => by
    simp only [List.map_cons, List.map_nil, List.mem_cons, List.not_mem_nil, or_false] at hm
    rcases hm with e | e | e | e
    · exact ne_tuple N2 (by repeat (first | exact hp | refine' List.Mem.tail _ ?_)) (hc1 p hp) (by k_mem) (.inl hGe.cls) e
    · exact ne_tuple N2 (by repeat (first | exact hp | refine' List.Mem.tail _ ?_)) (hc1 p hp) (by k_mem) (.inr rfl) e
    · exact (hn1 p hp).1 e
    · exact (hn1 p hp).2 e
  refine' call_top ih B F2 X TT N2 rfl rfl rfl rfl ?m1 ?m2 ?m3 ?m4 ?U ?ne ?room ?un hGe ?dl loGe hrep.right ?al (hblk.ext ex1) ?dn hnb fd1 ?keys (habs.right so1) ?xl ?H ht1 ?z lo ?_
  case m1 => k_mem
  case m2 => k_mem
  case m3 => k_mem
  case m4 => k_mem
  case U => k_extra "k_upd2"
  case ne => (refine ⟨?_, ?_, ?_, ?_, ?_, ?_⟩ <;> k_ne)
  case room => k_room
  case un => k_extra "k_un"
  case dl => omega
  case al => exact mid_al hal1
  case dn => omega
  case keys => exact KeysAt.from (hkeys.keeps (site_keep F2 N2 [(aGe, oGe), (bl, listOf vs.toArray n), (fo, ofd1), (ta, ot1)] (led4 (by k_mem) (by k_mem) (by k_mem) (by k_mem)))) kf1 (fun p hp => hideAll_get _ (N2 p (by repeat (first | exact hp | refine' List.Mem.tail _ ?_))).1 (ne1 p hp))
  case xl => omega
  case H => exact HashFn.at4 H F2 N2 (by k_mem) (by k_mem) (by k_mem) (by k_mem)
  case z => have := ex1.len; omega
  intro b2 u2 xs2 keys2 ofd2 ot2 T2 h2 tk2 F3 N3 hc2 hn2' kf2 fd2 cov2 so2 ex2 ht2 tr2 len2 ll2
  try dsimp only at N3
  simp only [List.cons_append, List.nil_append] at N3
  have hK1 : ∀ p ∈ keys1 ++ keys2, p.1 ≠ fo := fun p hp => (List.mem_append.mp hp).elim (fun h => (hn1 p h).1) fun h => (hn2' p h).1
  have hK2 : ∀ p ∈ keys1 ++ keys2, p.1 ≠ ta := fun p hp => (List.mem_append.mp hp).elim (fun h => (hn1 p h).2) fun h => (hn2' p h).2
  have hl1 := ex1.len
  have hl2 := ex2.len
  have hsz10 : T2.length ≤ 1000000 := by omega
  k_steps
  unfold Stop
  with_reducible rename Fr _ _ _ _ => F8
  with_reducible rename News _ _ _ _ => N8
  refine pickO N8 fun kt okt e1 e2 => ?_
  subst e1 e2
  refine' fd_set F8 N8 ?U8 fd2 ?k8 (.head _) ?un8 ?z8 ?_
  case U8 => k_updF
  case k8 => exact KeysAt.from (hkeys.keeps F8.keep) (kf1.trans kf2) (fun p hp => (N8 p (by repeat (first | exact hp | refine' List.Mem.tail _ ?_))).1)
  case un8 => k_extra "k_un"
  case z8 => omega
  intro h' oFd tk' F' N' hFd
  try dsimp only at N'
  k_steps
  with_reducible rename Fr _ _ _ _ => F9
  with_reducible rename News _ _ _ _ => N9
  rw [hdA] at hbH
  have htr : Tr TH (d + 1) (sub f low) bH.toList := ⟨_, _, (tr1.ext ex2).ext hxH, by rw [sub_sub]; exact tr2.ext hxH, hbH⟩
  have hc := Cov.join (a := kt) (t := tH) hal cov1 cov2 so1 so2 ex2 hxH htr
  have hlx := storedH_len xs2 [(low : Int), ((d + 1 : Nat) : Int)] kt (.bytes bH tH)
  exact ret bH tH _ ((kt, _) :: (keys1 ++ keys2)) oFd oH TH _ _ F9.keep (led4 (N9 _ (by k_mem)).1 (N9 _ (by k_mem)).1 (N9 _ (by k_mem)).1 (N9 _ (by k_mem)).1)
    (fun p hp => by
      rcases List.mem_cons.mp hp with rfl | hp
      · exact ⟨(N9 _ (.head _)).1, (N9 _ (.head _)).2.2, rfl⟩
      · have hm := N9 p (by repeat (first | exact hp | refine' List.Mem.tail _ ?_))
        exact ⟨hm.1, hm.2.2, (List.mem_append.mp hp).elim (hc1 p) (hc2 p)⟩)
    ((kf1.trans kf2).put keyObj2 _) hFd hc.1 hc.2 (((ex1.trans ex2).trans hxH).mono (by omega)) hotH htr (by omega)
theorem top_all (prog : Program) (w : World) (d : Nat) : TopC prog w d := Nat.rec (motive := fun d => TopC prog w d) (top_zero prog w) (fun d ih => top_succ prog w d ih) d
end -- S21
section -- S22a
section
variable {prog : Program} {w : World} {A : Around} {E : Value → Shared → Prop} {s : Shared} {env : Env} {h₀ : Heap} {x : Str} {body : List Stmt} {Q : Flow → Shared → Prop}
/-- a range down to nought -/
theorem iter_down {r : Addr} {n : Nat} {t₀ u₀ v₀ : Tok} {m₀ : Str → Option Value} {news : List (Addr × Obj)} (J : Nat → (Str → Option Value) → List (Addr × Obj) → Prop)
    (hh : A.handled = none) (hr : IsRange s.heap r ((n : Int) - 1) (-1) (-1) t₀ u₀ v₀) (hn : n ≤ 1000) (F : Fr h₀ env.locals s.heap m₀) (N : News h₀ env.locals s.heap news) (hj : J 0 m₀ news)
    (turn : ∀ (l : Nat) t m₁ news₁ h tk I oI, l < n → J (n - 1 - l) m₁ news₁ → AllNe I news₁ → Fr h₀ env.locals h (fun y => if y = x then some (.int (l : Int) t) else m₁ y) → News h₀ env.locals h ((I, oI) :: news₁) →
      wpAny (model prog w) A (execs body env) (TurnEnd h₀ env.locals I oI (J (n - l)) { s with heap := h, toks := tk } Q) E { s with heap := h, toks := tk })
    (done : ∀ m₁ news₁ h tk, J n m₁ news₁ → Fr h₀ env.locals h m₁ → News h₀ env.locals h news₁ → Q .next { s with heap := h, toks := tk }) :
    wpAny (model prog w) A (pyIter (.ref r)) (fun it s₂ => LoopAtV prog w A h₀ env x body Q E it s₂) E s := by
  have hsz : Builtin.Range.rangeSize ((n : Int) - 1) (-1) (-1) = (n : Int) := by
    unfold Builtin.Range.rangeSize
    rw [if_neg (by decide)]
    simp only [Int.neg_neg, Int.ediv_one]
    split <;> omega
  have hsm : Builtin.Range.small ((n : Int) - 1) (-1) (-1) = true := by
    unfold Builtin.Range.small
    rw [hsz, if_neg (by decide)]
    have fits : ∀ z : Int, -2000 ≤ z → z ≤ 2000 → Builtin.Range.rangeFitsLong z = true := fun z h1 h2 => by
      unfold Builtin.Range.rangeFitsLong
      simp only [Bool.and_eq_true, decide_eq_true_eq]
      omega
    rw [fits _ (by omega) (by omega), fits (-1) (by omega) (by omega), fits _ (by omega) (by omega)]
    simp [fits (-1) (by omega) (by omega)]
  refine wpAny_pyIter_range hr hsm ?_
  have W : Walks prog w A s.heap.objs.size [s.heap.objs.size] [s.heap.objs.size] n (fun i v => i < n ∧ ∃ t, v = .int (((n : Int) - 1) + i * (-1)) t)
      (fun i h => IsRangeIter h s.heap.objs.size (((n : Int) - 1) + (i : Nat) * (-1)) ((n : Int) - (i : Nat)) (-1)) := (Walks.range hh _ ((n : Int) - 1) (-1) n).bound
  refine loop_one J W (List.mem_singleton.mpr rfl) ?_ (next_is_new F) (fun b hb => .inl (List.mem_singleton.mp hb)) (by show IsRangeIter _ _ _ _ _; rw [hsz]; simpa using Heap.get?_push_size _ rfl) (fun i h hI => ⟨_, hI⟩) (F.push _)
    (fun p hp => ⟨Heap.get?_push_of_some _ (N p hp).1, (N p hp).2⟩) (fun p hp e => absurd (Heap.lt_size (N p hp).1) (by rw [e]; exact Nat.lt_irrefl _)) hj ?_ done
  · intro hm
    exact absurd F.ns.lt ((List.mem_singleton.mp hm) ▸ Nat.lt_irrefl _)
  · rintro i v m₁ news₁ h tk oI hi ⟨_, t, rfl⟩ hJ hne F' N'
    have e : ((n : Int) - 1) + (i : Int) * (-1) = ((n - 1 - i : Nat) : Int) := by omega
    rw [e] at F'
    have z := turn (n - 1 - i) t m₁ news₁ h tk _ oI (by omega) (by rw [show n - 1 - (n - 1 - i) = i by omega]; exact hJ) hne F' N'
    rw [show n - (n - 1 - i) = i + 1 by omega] at z
    exact z
end
theorem low_mul_le {p l d : Nat} (hp : p < 2 ^ d) (hl : l ≤ d) : low p l + 2 ^ l ≤ 2 ^ d := by
  unfold low
  have e : 2 ^ d = 2 ^ (d - l) * 2 ^ l := by rw [← Nat.pow_add]; congr 1; omega
  have h : p / 2 ^ l < 2 ^ (d - l) := by
    rw [Nat.div_lt_iff_lt_mul (Nat.two_pow_pos l), ← e]; exact hp
  have : (p / 2 ^ l + 1) * 2 ^ l ≤ 2 ^ (d - l) * 2 ^ l := Nat.mul_le_mul_right _ h
  rw [e, ← Nat.succ_mul]; exact this
theorem low_mod (p l : Nat) : low p l % 2 ^ l = 0 := by unfold low; exact Nat.mul_mod_left ..
theorem other_mod (p l : Nat) : other p l % 2 ^ l = 0 := by
  unfold other
  split
  · rw [Nat.add_mod_right]; exact low_mod p l
  · have h := low_mod p l
    obtain ⟨k, hk⟩ := Nat.dvd_of_mod_eq_zero h
    rw [hk]
    cases k with
    | zero => simp
    | succ k => rw [Nat.mul_succ, Nat.add_sub_cancel]; exact Nat.mul_mod_right ..
theorem low_ge {p l : Nat} (h : ¬ p / 2 ^ l % 2 = 0) : 2 ^ l ≤ low p l := by
  unfold low
  have : 1 ≤ p / 2 ^ l := by
    generalize p / 2 ^ l = z at h
    omega
  calc 2 ^ l = 1 * 2 ^ l := by omega
    _ ≤ p / 2 ^ l * 2 ^ l := Nat.mul_le_mul_right _ this
theorem other_le {p l d : Nat} (hp : p < 2 ^ d) (hl : l < d) : other p l + 2 ^ l ≤ 2 ^ d := by
  unfold other
  split
  · rename_i h
    have e := low_succ_even h
    have := low_mul_le hp (l := l + 1) (by omega)
    rw [e]; rw [Nat.pow_succ] at this; omega
  · rename_i h
    have := low_mul_le hp (l := l) (by omega)
    have := low_ge h
    have := Nat.two_pow_pos l
    omega
theorem other_int {p l : Nat} (h : ¬ p / 2 ^ l % 2 = 0) : ((low p l : Nat) : Int) - ((2 ^ l : Nat) : Int) = ((other p l : Nat) : Int) := by
  have h1 := low_ge h
  unfold other; rw [if_neg h]; omega
theorem other_int0 {p l : Nat} (h : p / 2 ^ l % 2 = 0) : ((low p l : Nat) : Int) + ((2 ^ l : Nat) : Int) = ((other p l : Nat) : Int) := by
  unfold other; rw [if_pos h]; omega
section
variable {prog : Program} {w : World} {A : Around} {E : Value → Shared → Prop} {s : Shared}
theorem pow_as {l : Nat} {t u : Tok} {Q : Value → Shared → Prop} (hl : l ≤ 1000) (h : ∀ t' k, Q (.int ((2 ^ l : Nat) : Int) t') { s with toks := k }) : wpAny (model prog w) A (binaryOp .Pow (.int 2 t) (.int (l : Int) u)) Q E s := by
  refine pow_int_small (by omega) (by omega) (by decide) ?_
  have e : ((2 : Int) ^ ((l : Int)).toNat) = ((2 ^ l : Nat) : Int) := by simp
  rw [e]; exact h _ _
theorem fdiv_as {a b c : Int} {t u : Tok} {Q : Value → Shared → Prop} (hb : 0 < b ∧ b < 1000000) (e : a.fdiv b = c) (h : ∀ t' k, Q (.int c t') { s with toks := k }) : wpAny (model prog w) A (binaryOp .FloorDiv (.int a t) (.int b u)) Q E s := by
  subst e
  exact floordiv_int (by omega) (h _ _) (.inl (PyProof.noPylong_small (by omega)))
theorem fmod_as {a b c : Int} {t u : Tok} {Q : Value → Shared → Prop} (hb : 0 < b) (e : a.fmod b = c) (h : ∀ t' k, Q (.int c t') { s with toks := k }) : wpAny (model prog w) A (binaryOp .Mod (.int a t) (.int b u)) Q E s := by
  subst e
  exact mod_int (by omega) (h _ _)
theorem mul_as {a b c : Int} {t u : Tok} {Q : Value → Shared → Prop} (hb : 0 < b ∧ b < 1000000) (e : a * b = c) (h : ∀ t' k, Q (.int c t') { s with toks := k }) : wpAny (model prog w) A (binaryOp .Mult (.int a t) (.int b u)) Q E s := by
  subst e
  have hbits := KTBy.bits_le (k := 8) (x := b) rfl (by omega) (Int.lt_trans hb.2 (by decide))
  exact mul_int (h _ _) (IntMulOk.of_right (by omega))
theorem fdiv_nat (a b : Nat) : ((a : Int)).fdiv (b : Int) = ((a / b : Nat) : Int) := by
  rw [Int.fdiv_eq_ediv_of_nonneg _ (by omega)]; rfl
theorem fmod_nat (a b : Nat) : ((a : Int)).fmod (b : Int) = ((a % b : Nat) : Int) := by
  rw [Int.fmod_eq_emod_of_nonneg _ (by omega)]; rfl
variable {g : Heap} {L fo kt : Addr} {m : Str → Option Value} {news : List (Addr × Obj)} {ofd : Obj} {xs : FdX} {a b : Int} {t u : Tok} {n : Nat}
theorem fd_getT {T : List Oct} {dflt : Oct} {f : Nat → Oct} {d lo l : Nat} {v : Array UInt8} {vt : Tok} {Q : Value → Shared → Prop} (N : News g L s.heap news) (hfo : (fo, ofd) ∈ news) (hfd : FdObj prog w ofd xs) (hk : KeysAt prog w s.heap xs) (hkt : (kt, { cls := .type "tuple", data := .seq #[.int ((lo : Nat) : Int) t, .int ((l : Nat) : Int) u] n }) ∈ news) (hun : A.units + 2 < cLine) (lo' : (fo == sysModules) = false)
    (cov : Cov T dflt xs f 0 d) (hl : l ≤ d) (hr : lo + 2 ^ l ≤ 2 ^ d) (hm : lo % 2 ^ l = 0) (hv : Tr T l (cst dflt) v.toList)
    (h : ∀ c u tk, Tr T l (sub f lo) c.toList → Q (.bytes c u) { s with toks := tk }) : wpAny (model prog w) A (call (.builtin "dict.get") [.ref fo, .ref kt, .bytes v vt]) Q E s := by
  refine fd_get N (N _ hfo).1 hfd hk hkt hun lo' fun tk => ?_
  show Q ((fat xs lo l).getD (.bytes v vt)) _
  rcases cov l lo ⟨hl, Nat.zero_le _, by omega⟩ hm with ⟨c, u, e, ht⟩ | ⟨e, hall⟩
  · rw [e]; exact h c u tk ht
  · rw [e]
    exact h v vt tk (hv.congr fun i hi => by unfold cst sub; rw [Nat.add_comm]; exact (hall i hi).symm)
end
/-- a row told from the top down -/
def Row (P : Nat → Oct → Prop) (d i : Nat) (vs : List Value) : Prop := vs.length = i ∧ ∀ l, d - i ≤ l → l < d → ∃ b t, vs[d - 1 - l]? = some (.bytes b t) ∧ P l b.toList
theorem Row.nil (P : Nat → Oct → Prop) (d : Nat) : Row P d 0 [] := ⟨rfl, fun l h1 h2 => absurd h1 (by omega)⟩
theorem Row.down {P : Nat → Oct → Prop} {d l : Nat} {vs : List Value} (h : Row P d (d - 1 - l) vs) (hl : l < d) {b : Array UInt8} {t : Tok} (hb : P l b.toList) : Row P d (d - l) (vs ++ [.bytes b t]) := by
  refine ⟨by rw [List.length_append, h.1]; simp; omega, fun k h1 h2 => ?_⟩
  by_cases e : k = l
  · subst e
    refine ⟨b, t, ?_, hb⟩
    rw [← h.1]; simp
  · obtain ⟨c, u, hc, ht⟩ := h.2 k (by omega) h2
    refine ⟨c, u, ?_, ht⟩
    rw [List.getElem?_append_left (by rw [h.1]; omega)]
    exact hc
theorem Row.octs {P : Nat → Oct → Prop} {d : Nat} {vs : List Value} (h : Row P d d vs) : ∃ bs, Octs vs bs ∧ bs.length = d ∧ ∀ l, l < d → ∃ x, bs[d - 1 - l]? = some x ∧ P l x := by
  obtain ⟨bs, hbs⟩ := octs_of (vs := vs) fun v hv => by
    obtain ⟨j, hj, rfl⟩ := List.mem_iff_getElem.mp hv
    obtain ⟨b, t, e, _⟩ := h.2 (d - 1 - j) (by omega) (by rw [h.1] at hj; omega)
    rw [show d - 1 - (d - 1 - j) = j by rw [h.1] at hj; omega, List.getElem?_eq_getElem hj] at e
    exact ⟨b, t, Option.some.inj e⟩
  refine ⟨bs, hbs, hbs.length ▸ h.1, fun l hl => ?_⟩
  obtain ⟨b, t, e, ht⟩ := h.2 l (by omega) hl
  exact ⟨b.toList, hbs.at _ e, ht⟩
section
variable {prog : Program} {w : World} {A : Around} {E : Value → Shared → Prop} {s : Shared}
theorem eq_par {k : Nat} {t u : Tok} {Q : Value → Shared → Prop} (h1 : k = 0 → Q (.bool true) s) (h0 : ¬ k = 0 → Q (.bool false) s) : wpAny (model prog w) A (compareOp .Eq (.int (k : Int) t) (.int 0 u)) Q E s := by
  refine eq_int ?_
  by_cases h : k = 0
  · subst h; exact h1 rfl
  · have : ((k : Int) == 0) = false := by simp; omega
    rw [this]; exact h0 h
end
section
variable {prog : Program} {w : World} {A : Around} {E : Value → Shared → Prop} {s : Shared} {g : Heap} {L d : Addr} {news : List (Addr × Obj)} {o : Obj}
theorem get_dict {pl : Sem Bool} {Q : Value × List Value → Shared → Prop} (N : News g L s.heap news) (hp : (d, o) ∈ news) (hx : o.ExactDict) (h : Q (.builtin "dict.get", [.ref d]) s) : wpAny (model prog w) A (getMethod (.ref d) "get" pl) Q E s :=
  getMethod_builtin ⟨o, (N _ hp).1, hx.1⟩ PySem.F.plainAttrs_dict PySem.F.slot_dict_get PySem.F.type_dict_get (fun a e => by cases e; exact ⟨o, (N _ hp).1, hx.2.1⟩) h
theorem FdObj.exact {xs : FdX} (h : FdObj prog w o xs) : o.ExactDict := let ⟨_, _, hx, _⟩ := h; hx
theorem IsKB.exact {K : Type} [DecidableEq K] {knd : KeyKind prog w K} {D : List (K × Oct)} (h : IsKB knd o D) : o.ExactDict := let ⟨_, ⟨_, _, hx, _⟩, _⟩ := h; hx
theorem kb_get {D : List (Int × Oct)} {k : Int} {kt vt : Tok} {v : Array UInt8} {x : Oct} {Q : Value → Shared → Prop} (N : News g L s.heap news) (hp : (d, o) ∈ news) (hd : IsKB (intKind prog w) o D) (lo : (d == sysModules) = false) (hx : (look D k).getD v.toList = x)
    (h : ∀ b t tk, b.toList = x → Q (.bytes b t) { s with toks := tk }) : wpAny (model prog w) A (call (.builtin "dict.get") [.ref d, .int k kt, .bytes v vt]) Q E s := by
  obtain ⟨kvs, hdo, hr⟩ := hd
  refine kdg_get2 (knd := intKind prog w) N hp hdo lo (intKind_is _ _ _ _) _ rfl ?_
  rcases hr.at k with ⟨h1, h2⟩ | ⟨y, b, t, h1, h2, h3⟩
  · rw [h2]
    rw [h1] at hx
    exact h v vt _ hx
  · rw [h2]
    rw [h1] at hx
    exact h b t _ (h3.trans hx)
end
end -- S22a
section -- S22
theorem lines_s22_1 : True := by
  w_top off
  k_with_none
  (k_with "exec For Name Call cons nil" => (refine stop ?_))
  (k_with "exec For Name Call" => (refine stop ?_))
  (k_with "pyIter ref" => (refine stop ?_))
  (k_with "k_room" => (((try simp only [depth_under_make, depth_under_kw, depth_in1, depth_deeper, depth_caller]); omega)))
  (k_with "compareOp NotEq int int" => (refine ne_same ?_))
  (k_with "call ref" => ((k_here; (with_reducible show wpAny _ _ (call (Value.ref _) [Value.bytes _ _, Value.str _ _]) _ _ _); k_dflt (refine' from_big ?q6N ?q6m ?q6l ?q6p ?_; (case q6N => k_asm); (case q6m => k_mem); (case q6l => omega); (case q6p => assumption)); intro t' k')))
  (k_with "z cj" => (first | with_reducible assumption | exact And.left (by with_reducible assumption) | exact And.left (And.right (by with_reducible assumption)) | exact And.left (And.right (And.right (by with_reducible assumption))) | exact And.left (And.right (And.right (And.right (by with_reducible assumption)))) | exact And.left (And.right (And.right (And.right (And.right (by with_reducible assumption))))) | exact And.left (And.right (And.right (And.right (And.right (And.right (by with_reducible assumption)))))) | exact And.left (And.right (And.right (And.right (And.right (And.right (And.right (by with_reducible assumption))))))) | exact And.left (And.right (And.right (And.right (And.right (And.right (And.right (And.right (by with_reducible assumption)))))))) | exact And.right (by with_reducible assumption) | exact And.right (And.right (by with_reducible assumption)) | exact And.right (And.right (And.right (by with_reducible assumption))) | exact And.right (And.right (And.right (And.right (by with_reducible assumption)))) | exact And.right (And.right (And.right (And.right (And.right (by with_reducible assumption))))) | exact And.right (And.right (And.right (And.right (And.right (And.right (by with_reducible assumption)))))) | exact And.right (And.right (And.right (And.right (And.right (And.right (And.right (by with_reducible assumption)))))))))
  (k_with "z ne1" => (first | k_extra "z cj" | (refine Ne.symm ?_; k_extra "z cj") | exact AllNe.at1 (by with_reducible assumption) (by k_mem) | exact AllNe.at2 (by with_reducible assumption) (by k_mem) | omega))
  (k_with "k_ne" => ((refine PySem.W.neN ?_; (try dsimp only); k_extra "z ne1")))
  (k_with "execs cons" => (((with_reducible show wpAny _ _ (execs (Stmt.Assign _ _ _ :: _) _) _ _ _); refine execsGen fun P8 hP8 => ?_)))
  (k_with "execs cons" => (((with_reducible show wpAny _ _ (execs (Stmt.Expr _ _ :: _) _) _ _ _); refine execsGen fun P8 hP8 => ?_)))
  (k_with "execs cons" => (((with_reducible show wpAny _ _ (execs (Stmt.AugAssign _ _ _ _ :: _) _) _ _ _); refine execsGen fun P8 hP8 => ?_)))
  (k_with "FinQ" => ((refine finOut (by with_reducible assumption) ?_; (try dsimp only))))
  (k_with "call ref" => ((k_here; (with_reducible show wpAny _ _ (call (Value.ref 34) [Value.bytes _ _]) _ _ _); k_dflt (refine' call_valid_bytes ?q7B ?q7F ?q7X ?q7T ?q7N ?q7c1 ?q7c2 ?q7c3 ?q7c4 ?q7r ?_; (case q7F => k_asm); (case q7N => k_asm); (case q7B => k_asm); (case q7X => k_asm); (case q7T => k_asm); (case q7c1 => exact rfl); (case q7c2 => exact rfl); (case q7c3 => exact rfl); (case q7c4 => exact rfl); (case q7r => k_room)); intro h' tk' F' N'; (try k_sweep))))
  (k_with "call ref" => ((k_here; (with_reducible show wpAny _ _ (call (Value.ref 41) [Value.bytes _ _, Value.int _ _]) _ _ _); k_dflt (refine' call_valid_length ?q8B ?q8F ?q8X ?q8T ?q8N ?q8c1 ?q8c2 ?q8c3 ?q8c4 ?q8r ?q8z ?q8n ?_; (case q8F => k_asm); (case q8N => k_asm); (case q8B => k_asm); (case q8X => k_asm); (case q8T => k_asm); (case q8c1 => exact rfl); (case q8c2 => exact rfl); (case q8c3 => exact rfl); (case q8c4 => exact rfl); (case q8r => k_room); (case q8z => omega); (case q8n => omega)); intro h' tk' F' N'; (try k_sweep))))
  (k_with "getMethod type:int" => ((k_here; k_dflt (refine' KFB.getm ?q9kfbF ?q9kfbN ?q9kfbX (find_fb _) ?_; (case q9kfbF => k_asm); (case q9kfbN => k_asm); (case q9kfbX => k_asm); k_whole; intro x' h' F' N' l1; (try k_lt l1); (try k_sweep)))))
  (k_with "eval Name" => ((k_here; k_dflt (refine' nameX_L ?q10F ?q10v ?_ ?q10a ?q10b; (case q10a => rfl); (case q10b => rfl); (case q10F => k_asm); (case q10v => assumption); k_whole))))
  (k_with "subscriptTail" => ((k_here; (with_reducible show wpAny _ _ (subscriptTail _ _ (Value.ref _) (Value.bytes _ _)) _ _ _); k_dflt (refine' kb_item ?q11N ?q11p ?q11d (bk_is _ _) ?q11l ?_; (case q11N => k_asm); (case q11p => k_mem); (case q11d => assumption); (case q11l => assumption); (intro b' t' hb')))))
  (k_with "subscriptTail" => ((k_here; (with_reducible show wpAny _ _ (subscriptTail _ (Expr.Slice none _ none _) (Value.bytes _ _) (Value.ref _)) _ _ _); (with_reducible rename Fr _ _ _ _ => F'); (with_reducible rename News _ _ _ _ => N'); (refine cut_lo (s := ⟨_, _, _, _, _⟩) F' N' (by assumption) (by assumption) (by assumption) ?_); intro _ _ _ _ _ _ _)))
  (k_with "subscriptTail" => ((k_here; (with_reducible show wpAny _ _ (subscriptTail _ (Expr.Slice _ none none _) (Value.bytes _ _) (Value.ref _)) _ _ _); (with_reducible rename Fr _ _ _ _ => F'); (with_reducible rename News _ _ _ _ => N'); (refine cut_hi (s := ⟨_, _, _, _, _⟩) F' N' (by assumption) (by assumption) (by assumption) ?_); intro _ _ _ _ _ _ _)))
  (k_with "binaryOp BitAnd int int" => ((k_here; refine and_bit (by assumption) (fun hbit hpos => ?_) (fun hbit => ?_))))
  (k_with "loadName" => ((k_here; k_dflt (refine' ldn ?q12F ?q12v ?_ ?q12a ?q12b; (case q12a => rfl); (case q12b => rfl); (case q12F => k_asm); (case q12v => assumption); k_whole))))
  (k_with "truthy int" => ((refine truthy_pos (by assumption) ?_)))
  (k_with "hash1" => (exact HashFn.at1 (by assumption) (by k_asm) (by k_asm) (by k_mem)))
  (k_with "callWith ref" => ((k_here; k_dflt (refine' callWith_F ?q13k1 ?_; (case q13k1 => exact HashFn.fnAt (by assumption) (by k_asm)); k_whole))))
  (k_with "FnAt" => (exact HashFn.fnAt (by assumption) (by k_asm)))
  (k_with "And" => (((with_reducible show FnAt _ _ ∧ _); refine ⟨HashFn.fnAt (by assumption) (by k_asm), ?_⟩; try dsimp only [List.nil_append, List.cons_append])))
  (k_with "nm_m10_1" => (intro bH tH h' tk' oH TH F' N' hxH hbH hlH hotH))
  (k_with "nm_m10_2" => ((try dsimp only at N')))
  (k_with "call ref" => ((k_here; (with_reducible show wpAny _ _ (call (Value.ref _) [Value.bytes _ _]) _ _ _); k_dflt (refine' call_hash ?q14B ?q14F ?q14X ?q14T ?q14N ?q14c1 ?q14c2 ?q14c3 ?q14c4 ?q14H ?q14ot ?q14U ?q14z ?q14r ?q14lo ?_; (case q14F => k_asm); (case q14N => k_asm); (case q14B => k_asm); (case q14X => k_asm); (case q14T => k_asm); (case q14c1 => exact rfl); (case q14c2 => exact rfl); (case q14c3 => exact rfl); (case q14c4 => exact rfl); (case q14H => k_extra "hash1"); (case q14ot => assumption); (case q14U => k_updF); (case q14z => omega); (case q14r => k_room); (case q14lo => assumption)); k_extra "nm_m10_1"; k_extra "nm_m10_2"; (try k_sweep))))
  (k_with "call ref" => ((k_here; (with_reducible show wpAny _ _ (call (Value.ref 34) [Value.bytes _ _]) _ _ _); k_dflt (refine' call_valid_bytes ?q7B ?q7F ?q7X ?q7T ?q7N ?q7c1 ?q7c2 ?q7c3 ?q7c4 ?q7r ?_; (case q7F => k_asm); (case q7N => k_asm); (case q7B => k_asm); (case q7X => k_asm); (case q7T => k_asm); (case q7c1 => exact rfl); (case q7c2 => exact rfl); (case q7c3 => exact rfl); (case q7c4 => exact rfl); (case q7r => k_room)); intro h' tk' F' N'; (try k_sweep))))
  (k_with "nm_m10_3" => (intro rG qG bvsG vG bsG nG n2G h' tk' F' N' hrG hqG hqrG hoG hsG hvG))
  (k_with "nm_m10_4" => ((have hrG9 := hrG; have hqG9 := hqG; simp only [AllNe, and_true] at hrG hqG)))
  (k_with "call ref" => ((k_here; (with_reducible show wpAny _ _ (call (Value.ref 88) [Value.ref _, Value.bytes _ _]) _ _ _); k_dflt (refine' call_get ?q15B ?q15F ?q15X ?q15T ?q15N ?q15c1 ?q15c2 ?q15c3 ?q15c4 ?q15m1 ?q15m2 ?q15m3 ?q15ne ?q15r ?q15s1 ?q15s2 ?q15ky ?q15hp ?q15hp2 ?q15db ?q15hin ?_; (case q15F => k_asm); (case q15N => k_asm); (case q15B => k_asm); (case q15X => k_asm); (case q15T => k_asm); (case q15c1 => exact rfl); (case q15c2 => exact rfl); (case q15c3 => exact rfl); (case q15c4 => exact rfl); (case q15m1 => k_mem); (case q15m2 => k_mem); (case q15m3 => k_mem); (case q15ne => (refine ⟨?_, ?_, ?_⟩ <;> k_ne)); (case q15r => k_room); (case q15s1 => omega); (case q15s2 => omega); (case q15ky => assumption); (case q15hp => assumption); (case q15hp2 => assumption); (case q15db => assumption); (case q15hin => assumption)); k_extra "nm_m10_3"; k_extra "nm_m10_4"; (try k_sweep))))
  (k_with "nm_m10_5" => ((intro DR h' tk' F' N' l1; (try k_lt l1))))
  (k_with "call type:reversed" => ((k_here; (with_reducible show wpAny _ _ (call (Value.type _) [Value.ref _]) _ _ _); k_dflt (refine' reversed_tup ?q16F ?q16N ?q16m ?q16z ?_; (case q16F => k_asm); (case q16N => k_asm); (case q16m => k_mem); (case q16z => assumption)); k_extra "nm_m10_5"; (try k_sweep))))
  (k_with "nm_m10_6" => (intro h' oS F' N' hdS))
  (k_with "nm_m10_7" => ((try dsimp only at N')))
  (k_with "setItem ref bytes" => ((k_here; (with_reducible show wpAny _ _ (setItem (Value.ref _) (Value.bytes _ _) (Value.bytes _ _)) _ _ _); k_dflt (refine' kb_set ?q17F ?q17N ?q17U ?q17d (bk_is _ _) ?q17z ?_; (case q17F => k_asm); (case q17N => k_asm); (case q17U => k_updF); (case q17d => assumption); (case q17z => (simp only [sizeLine_eq]; omega)); (k_extra "nm_m10_6"); k_extra "nm_m10_7"))))
  (k_with "nm_m10_8" => (intro dA tA kA hdA))
  (k_with "binaryOp Add bytes bytes" => ((k_here; (with_reducible show wpAny _ _ (binaryOp Operator.Add (Value.bytes _ _) (Value.bytes _ _)) _ _ _); refine add_octs (by assumption) (by assumption) ?_; k_extra "nm_m10_8")))
  (k_with "nm_m10_9" => (intro tA kA))
  (k_with "inplaceOp LShift int int" => ((k_here; refine shl_pow (by assumption) (by omega) ?_; k_extra "nm_m10_9")))
  (k_with "allne" => ((simp only [AllNe, and_true]; (repeat' apply And.intro) <;> k_extra "z ne1")))
  (k_with "nm_m10_10" => ((intro DT h' tk' F' N' l1; (try k_lt l1))))
  (k_with "call type:tuple" => ((k_here; (with_reducible show wpAny _ _ (call (Value.type _) [Value.ref _]) _ _ _); k_dflt (refine' tuple_rev ?q18hh ?q18F ?q18N ?q18m ?q18c ?q18d ?q18ne ?q18z ?_; (case q18hh => exact rfl); (case q18F => k_asm); (case q18N => k_asm); (case q18m => k_mem); (case q18c => exact rfl); (case q18d => exact rfl); (case q18ne => k_extra "allne"); (case q18z => assumption)); k_extra "nm_m10_10"; (try k_sweep))))
  (k_with "subscriptTail" => ((k_here; (with_reducible show wpAny _ _ (subscriptTail _ _ (Value.ref _) (Value.int (-1) _)) _ _ _); k_dflt (refine' listItems_neg ?q30N ?q30m ?q30z ?_; (case q30N => k_asm); (case q30m => k_mem); (case q30z => assumption)))))
  (k_with "k_un" => (((try simp only [units_deeper, units_in1, units_Ar]); omega)))
  (k_with "nm_eqe" => (intro hD9))
  (k_with "compareOp Eq ref ref" => ((k_here; k_dflt (refine' eq_empty (knd := intKind _ _) ?q31N ?q31m1 ?q31m2 ?q31da ?q31db ?q31la ?q31lb ?q31hu ?_ ?_; (case q31N => k_asm); (case q31m1 => k_mem); (case q31m2 => k_mem); (case q31da => assumption); (case q31db => assumption); (case q31la => assumption); (case q31lb => assumption); (case q31hu => k_extra "k_un")); (all_goals k_extra "nm_eqe"))))
  (k_with "nm_blk" => (intro bK uK hbK))
  (k_with "subscriptTail" => ((k_here; (with_reducible show wpAny _ _ (subscriptTail _ _ (Value.ref _) (Value.int _ _)) _ _ _); k_dflt (refine' item_blk ?q32N ?q32m ?q32b ?q32d ?q32n ?_; (case q32N => k_asm); (case q32m => k_mem); (case q32b => assumption); (case q32d => omega); (case q32n => assumption)); k_extra "nm_blk")))
  (k_with "nm_held" => (intro bHd tHd hHd))
  (k_with "subscriptTail" => ((k_here; (with_reducible show wpAny _ _ (subscriptTail _ _ (Value.ref _) (Value.int _ _)) _ _ _); k_dflt (refine' kb_item (knd := intKind _ _) ?q33N ?q33p ?q33d (intKind_is _ _ _ _) ?q33l ?_; (case q33N => k_asm); (case q33p => k_mem); (case q33d => assumption); (case q33l => exact Rep.leaf (by assumption) (by assumption))); k_extra "nm_held")))
  (k_with "nm_fd" => ((intro h' oFd tk' F' N' hFd; (try dsimp only at N'))))
  (k_with "setItem ref ref" => ((k_here; k_dflt (refine' fd_set ?q34F ?q34N ?q34U ?q34fd ?q34k ?q34kt ?q34un ?q34z ?_; (case q34F => k_asm); (case q34N => k_asm); (case q34fd => assumption); (case q34U => k_updF); (case q34kt => k_mem); (case q34k => first | assumption | exact KeysAt.keeps (by assumption) (Fr.keep (by k_asm))); (case q34un => k_extra "k_un"); (case q34z => omega)); k_extra "nm_fd")))
  (k_with "binaryOp Pow int int" => ((k_here; refine pow_as (by assumption) ?_; intro t' k')))
  (k_with "binaryOp FloorDiv int int" => ((k_here; refine fdiv_as (by assumption) (by assumption) ?_; intro t' k')))
  (k_with "binaryOp Mod int int" => ((k_here; refine fmod_as (by decide) (by assumption) ?_; intro t' k')))
  (k_with "binaryOp Mult int int" => ((k_here; refine mul_as (by assumption) (by assumption) ?_; intro t' k')))
  (k_with "binaryOp Sub int int" => ((k_here; refine sub_as (by first | assumption | exact other_int (by assumption)) ?_; intro t' k')))
  (k_with "binaryOp Add int int" => ((k_here; refine add_as (by first | assumption | exact other_int0 (by assumption)) ?_; intro t' k')))
  (k_with "nm_gt" => ((intro cG uG tkG htG)))
  (k_with "call builtin:dict.get" => ((k_here; k_dflt (refine' fd_getT ?q41N ?q41fo ?q41fd ?q41k ?q41kt ?q41un ?q41lo ?q41cov ?q41hl ?q41hr ?q41hm ?q41hv ?_; (case q41N => k_asm); (case q41fo => k_mem); (case q41kt => k_mem); (case q41fd => assumption); (case q41k => exact KeysAt.keeps (by assumption) (Fr.keep (by k_asm))); (case q41un => k_extra "k_un"); (case q41lo => assumption); (case q41cov => assumption); (case q41hl => omega); (case q41hr => first | exact low_mul_le (by assumption) (by assumption) | exact other_le (by assumption) (by assumption)); (case q41hm => first | exact low_mod _ _ | exact other_mod _ _); (case q41hv => assumption)); k_extra "nm_gt")))
  (k_with "nm_par" => ((intro hpar)))
  (k_with "compareOp Eq int int" => ((k_here; refine eq_par ?_ ?_ <;> k_extra "nm_par")))
  (k_with "getMethod ref" => ((k_here; (with_reducible show wpAny _ _ (getMethod (Value.ref _) (Str.ofString "get") _) _ _ _); k_dflt (refine' get_dict ?q42N ?q42p ?q42x ?_; (case q42N => k_asm); (case q42p => k_mem); (case q42x => first | exact FdObj.exact (by assumption) | exact IsKB.exact (knd := intKind _ _) (by assumption))))))
  trivial
section
variable {prog : Program} {w : World} {A : Around} {s : Shared} {g : Heap} {R : Result → Shared → Prop} {fo bl : Addr} {ofd : Obj} {T : List Oct} {xs : FdX} {dflt : Oct} {f : Nat → Oct} {d p nb nv : Nat} {vs : List Value} {t1 t2 : Tok}
set_option maxHeartbeats 4000000 in
theorem ways_ (S : Site w A g s.heap) (hL : Led g s.heap [(bl, listOf vs.toArray nv), (fo, ofd)]) (hne : @Ne Nat bl fo) (hroom : A.depth + 4 < recursionLimit) (hun : A.units + 20 < cLine) (hd : d ≤ 16) (hp : p < 2 ^ d) (hblk : Blk T dflt nb vs) (hdn : d < nb) (hnb : nb ≤ 257)
    (hfd : FdObj prog w ofd xs) (hkeys : KeysAt prog w g xs) (cov : Cov T dflt xs f 0 d) (lo : (fo == sysModules) = false)
    (ret : ∀ r q1 q2 v1 v2 b1 b2 n1 n2 n3 h' tk', (∀ a o, g.get? a = some o → h'.get? a = some o) → (∀ a ∈ [(bl, listOf vs.toArray nv), (fo, ofd)], h'.get? a.1 = some a.2) →
      h'.get? r = some { cls := .type "tuple", data := .seq #[.ref q1, .ref q2] n1 } → h'.get? q1 = some { cls := .type "tuple", data := .seq (List.toArray v1) n2 } → h'.get? q2 = some { cls := .type "tuple", data := .seq (List.toArray v2) n3 } →
      Fresh g [(bl, ofd), (fo, ofd)] r → Fresh g [(bl, ofd), (fo, ofd)] q1 → Fresh g [(bl, ofd), (fo, ofd)] q2 → Octs v1 b1 → Ons T f p d b1 → Octs v2 b2 → Sibs T f p d b2 → R (.ok (.ret (.ref r))) { s with heap := h', toks := tk' }) :
    codeAny (model prog w) A (.call (.ref 177) ⟨[.ref fo, .int (p : Int) t1, .int (d : Int) t2, .ref bl], []⟩) R s := by
  refine enterK (binds := [("found", .ref fo), ("key", .int (p : Int) t1), ("depth", .int (d : Int) t2), ("blanks", .ref bl)]) S hL (by k_is) (by k_is) (by omega) (BindsTo.of_eq rfl) (locs rfl) ?_ (by decide) rfl rfl rfl
  intro base fr dp un gd pp loose mean mg mb L h₁ eA B X TT F N l1
  subst eA
  simp only [Ar] at hroom hun
  have e1 : (d : Int) - 1 = (d : Int) - 1 := rfl
  k_steps
  unfold Stop
  refine For_invV g (by rfl) (by rfl) ?_
  k_steps
  unfold Stop
  with_reducible rename Fr _ _ _ _ => F1
  with_reducible rename News _ _ _ _ => N1
  with_reducible rename IsRange _ _ _ _ _ _ _ _ => hr1
  refine pick1 N1 fun l2 hl2 => ?_
  refine pick2 N1 fun l1 hl1 => ?_
  subst hl1 hl2
  refine iter_down (n := d) (fun i m nx => ∃ v1 v2 n1 n2, nx = [(l2, listOf v2.toArray n2), (l1, listOf v1.toArray n1), (bl, listOf vs.toArray nv), (fo, ofd)] ∧
    m "found" = some (.ref fo) ∧ m "key" = some (.int p t1) ∧ m "blanks" = some (.ref bl) ∧ m "on" = some (.ref l1) ∧ m "beside" = some (.ref l2) ∧ Row (fun l x => Tr T l (sub f (low p l)) x) d i v1 ∧ Row (fun l x => Tr T l (sub f (other p l)) x) d i v2) rfl hr1 (by omega) F1 N1 ?_ ?_ ?_
  · exact ⟨[], [], _, _, rfl, rfl, rfl, rfl, rfl, rfl, Row.nil _ _, Row.nil _ _⟩
  · intro l t m₁ news₁ h tk I oI hl hJ hne9 F2 N2
    refine wpGen fun P9 E9 hP9 hE9 => ?_
    try dsimp only
    obtain ⟨v1, v2, n1, n2, rfl, hm1, hm2, hm3, hm4, hm5, hv1, hv2⟩ := hJ
    simp only [AllNe, and_true] at hne9
    have hle : l ≤ d := by omega
    have hle9 : l ≤ 1000 := by omega
    have hpw : 0 < ((2 ^ l : Nat) : Int) ∧ ((2 ^ l : Nat) : Int) < 1000000 := by
      have h1 := Nat.two_pow_pos l
      have h2 : 2 ^ l ≤ 2 ^ 16 := Nat.pow_le_pow_right (by decide) (by omega)
      omega
    have e2 : (p : Int).fdiv ((2 ^ l : Nat) : Int) = ((p / 2 ^ l : Nat) : Int) := fdiv_nat _ _
    have e3 : ((p / 2 ^ l : Nat) : Int) * ((2 ^ l : Nat) : Int) = ((low p l : Nat) : Int) := by unfold low; simp
    have e4 : ((p / 2 ^ l : Nat) : Int).fmod 2 = ((p / 2 ^ l % 2 : Nat) : Int) := fmod_nat _ 2
    have hl9 : v1.length ≤ 100 := by rw [hv1.1]; omega
    have hl8 : v2.length ≤ 100 := by rw [hv2.1]; omega
    k_steps
    all_goals (with_reducible rename Fr _ _ _ _ => F9)
    all_goals (with_reducible rename News _ _ _ _ => N9)
    all_goals exact hP9 _ _ (show TurnNext _ _ _ _ _ _ _ from ⟨_, _, _, _, rfl, F9, fun q hq => N9 q (.tail _ (.tail _ hq)), by simp only [AllNe, and_true]; exact hne9, v1 ++ [.bytes _ _], v2 ++ [.bytes _ _], _, _, (by simp only [List.push_toArray]; rfl), hm1, hm2, hm3, hm4, hm5, hv1.down hl (by assumption), hv2.down hl (by assumption)⟩)
  · intro m₁ news₁ h tk hJ F2 N2
    refine wpGenE fun E8 hE8 => ?_
    obtain ⟨v1, v2, n1, n2, rfl, hm1, hm2, hm3, hm4, hm5, hv1, hv2⟩ := hJ
    have hl9 : v1.length ≤ 100 := by rw [hv1.1]; omega
    have hl8 : v2.length ≤ 100 := by rw [hv2.1]; omega
    obtain ⟨b1, o1, s1⟩ := hv1.octs
    obtain ⟨b2, o2, s2⟩ := hv2.octs
    k_steps
    with_reducible rename Fr _ _ _ _ => F9
    with_reducible rename News _ _ _ _ => N9
    refine pick1 N9 fun r hr => ?_
    refine pick2 N9 fun q2 hq2 => ?_
    refine pick3 N9 fun q1 hq1 => ?_
    subst hr hq2 hq1
    have cfd : ofd.cls = .type "dict" := hfd.cls
    have y0 := ne_of_cls N9 (.tail _ (.tail _ (.tail _ (.tail _ (.tail _ (.head _)))))) (.head _) (by simp)
    have y1 := ne_of_cls N9 (.tail _ (.tail _ (.tail _ (.tail _ (.tail _ (.tail _ (.head _))))))) (.head _) (by rw [cfd]; simp)
    have y2 := ne_of_cls N9 (.tail _ (.tail _ (.tail _ (.tail _ (.tail _ (.head _)))))) (.tail _ (.head _)) (by simp)
    have y3 := ne_of_cls N9 (.tail _ (.tail _ (.tail _ (.tail _ (.tail _ (.tail _ (.head _))))))) (.tail _ (.head _)) (by rw [cfd]; simp)
    have y4 := ne_of_cls N9 (.tail _ (.tail _ (.tail _ (.tail _ (.tail _ (.head _)))))) (.tail _ (.tail _ (.head _))) (by simp)
    have y5 := ne_of_cls N9 (.tail _ (.tail _ (.tail _ (.tail _ (.tail _ (.tail _ (.head _))))))) (.tail _ (.tail _ (.head _))) (by rw [cfd]; simp)
    exact ret r q1 q2 v1 v2 b1 b2 _ _ _ _ _ F9.keep (fun q hq => (N9 q (.tail _ (.tail _ (.tail _ (.tail _ (.tail _ hq)))))).1) (N9 _ (.head _)).1 (N9 _ (.tail _ (.tail _ (.head _)))).1 (N9 _ (.tail _ (.head _))).1
      ⟨(N9 _ (.head _)).2.2, y0, y1, trivial⟩ ⟨(N9 _ (.tail _ (.tail _ (.head _)))).2.2, y4, y5, trivial⟩ ⟨(N9 _ (.tail _ (.head _))).2.2, y2, y3, trivial⟩ o1 s1 o2 s2
end
end -- S22
section -- S23a
/-! the law's own frame -/
def lawDef : Stmt := match PySem.Challenge.pw_iw0038_01.main.body.reverse with
  | d :: _ => d
  | [] => .Pass default
def lawScope : Scope := scopeOf lawDef
abbrev lawEnv (L fn : Addr) : Env := envOfC "law" lawScope L fn (.ref 188)
/-- addresses that differ -/
def Apx (a : Nat) (l : List Nat) : Prop := ∀ b, b ∈ l → a ≠ b
theorem Apx.l {a b : Nat} {l : List Nat} (h : Apx a l) (m : b ∈ l) : a ≠ b := h b m
theorem Apx.r {a b : Nat} {l : List Nat} (h : Apx b l) (m : a ∈ l) : a ≠ b := fun e => h a m e.symm
def Off (tl : List (Addr × Obj)) (l : List Nat) : Prop := ∀ p ∈ tl, ∀ a : Nat, a ∈ l → p.1 ≠ a
theorem Off.all {tl : List (Addr × Obj)} {l : List Nat} {a : Addr} (h : Off tl l) (m : a ∈ l) : ∀ p ∈ tl, p.1 ≠ a := fun p hp => h p hp a m
theorem HashFn.ofNews {g h : Heap} {L fa ta ca cl : Addr} {ofa oca ocl : Obj} {news : List (Addr × Obj)} {as : List Addr} {pm doc ct : Value} {an : Option Addr} {vs : Array Value} {t : Tok} (N : News g L h news) (m1 : (fa, ofa) ∈ news) (m2 : (ca, oca) ∈ news) (m3 : (cl, ocl) ∈ news)
    (d1 : ofa.data = .func (fnX "_law_hash" "law.<locals>._law_hash" hashParams hashBody hashScope [("table", cl)] .none .none doc pm an (.ref ca) ct)) (d2 : oca.data = .fields vs) (d3 : vs[1]? = some (.str "law.<locals>._law_hash" t)) (d4 : ocl.data = .cell (some (.ref ta))) (n1 : fa ∉ as) (n2 : ca ∉ as) (n3 : cl ∉ as) : HashFn (hideAll h as) fa ta :=
  ⟨ofa, pm, doc, .ref ca, ct, an, cl, ocl, hideAll_get _ (N _ m1).1 n1, d1, ⟨ca, oca, vs, t, rfl, hideAll_get _ (N _ m2).1 n2, d2, d3⟩, hideAll_get _ (N _ m3).1 n3, d4⟩
/-- the law's hash, its code, its cell: in the ledger -/
structure LawH (ofa oca ocl : Obj) (ca cl ta : Addr) : Prop where
  fn : ∃ pm doc ct an, ofa.data = .func (fnX "_law_hash" "law.<locals>._law_hash" hashParams hashBody hashScope [("table", cl)] .none .none doc pm an (.ref ca) ct)
  cd : ∃ vs t, oca.data = .fields vs ∧ vs[1]? = some (.str "law.<locals>._law_hash" t)
  cl : ocl.data = .cell (some (.ref ta))
theorem LawH.at {g h : Heap} {L fa ta ca cl : Addr} {ofa oca ocl : Obj} {news : List (Addr × Obj)} {as : List Addr} (H : LawH ofa oca ocl ca cl ta) (N : News g L h news) (m1 : (fa, ofa) ∈ news) (m2 : (ca, oca) ∈ news) (m3 : (cl, ocl) ∈ news) (n1 : fa ∉ as) (n2 : ca ∉ as) (n3 : cl ∉ as) : HashFn (hideAll h as) fa ta := by
  obtain ⟨⟨pm, doc, ct, an, d1⟩, ⟨vs, t, d2, d3⟩, d4⟩ := H
  exact HashFn.ofNews N m1 m2 m3 d1 d2 d3 d4 n1 n2 n3
theorem LawH.fnAt {g h : Heap} {L fa ta ca cl : Addr} {ofa oca ocl : Obj} {news : List (Addr × Obj)} (H : LawH ofa oca ocl ca cl ta) (N : News g L h news) (m1 : (fa, ofa) ∈ news) : FnAt fa h := by
  obtain ⟨⟨pm, doc, ct, an, d1⟩, _, _⟩ := H
  obtain ⟨oc, od, dt, sl⟩ := ofa
  dsimp only at d1
  subst d1
  exact ⟨oc, od, _, sl, (N _ m1).1⟩
/-- the bottom frame: an exception caught leaves what is kept as it was -/
theorem fr_turn0 {g gN h : Heap} {L : Addr} {m : Str → Option Value} (T : KtsTurn [] g gN) (F : Fr gN L h m) : Fr g L h m := ⟨F.ns, fun b o e => F.keep b o (T.other b o e (by simp)), by rw [← T.size]; exact F.above⟩
theorem news_turn0 {g gN h : Heap} {L : Addr} {news : List (Addr × Obj)} (T : KtsTurn [] g gN) (N : News gN L h news) : News g L h news := fun p hp => ⟨(N p hp).1, (N p hp).2.1, by
  cases q : g.get? p.1 with
  | none => rfl
  | some o => have := T.other p.1 o q (by simp); rw [(N p hp).2.2] at this; cases this⟩
theorem stays_turn0 {g gN h : Heap} (T : KtsTurn [] g gN) (k : ∀ b o, gN.get? b = some o → h.get? b = some o) : ∀ b o, g.get? b = some o → h.get? b = some o := fun b o e => k b o (T.other b o e (by simp))
end -- S23a
section -- S23b
section
variable {prog : Program} {w : World} {A : Around} {E : Value → Shared → Prop} {s' : Shared} {g G : Heap} {L a e : Addr} {m : Str → Option Value} {name : Str} {scope : Scope} {cl : List (Str × Addr)} {cd cls c : Value}
  {b₀ : Stmt} {suite : List Stmt} {pos np : Pos} {rest : List ExceptHandler} {Q : Flow → Shared → Prop} {news : List (Addr × Obj)} {KF : Frag} {p : Program} {loose : List Str} {mean : ExcName → Option Value} {mg mb : Str → Option Value} {x : Str}
theorem nameX_any {M : Model} {A : Around} {E : Value → Shared → Prop} {Q : Value → Shared → Prop} {s : Shared} (hc : KtsName KF x c) (F : Fr g L s.heap m) (X : KF.In g) (T : TopRead p loose mg mb g) (h : Q c s)
    (hk : scope.kind = .function) (hx : (envX name scope L a cd cl).kindOf x = some .globalImplicit) (hd : (x == ("__debug__" : Str)) = false) : wpAny M A (eval (.Name x np) (envX name scope L a cd cl)) Q E s := by
  rcases hc with e | ⟨e, hv, hn⟩
  · exact nameX_K F X T e h hk hx hd
  · exact nameX_B F X T e hv hn h hk hx hd
/-- the bottom frame catches -/
theorem catch0 (hA : A.frames = some [envX name scope L a cd cl]) (R : RaisedSN g G [envX name scope L a cd cl] e cls news s'.heap) (F : Fr g L G m) (hsm : G.UpToSlots s'.heap) (X : KF.In g) (T : Top p loose mean mg mb g)
    (hc : KtsName KF x c) (he : exmOne KF cls c = some true)
    (k : ∀ h', Fr g L h' m → News g L h' news → wpAny (model prog w) (A.mark (some (.ref e))) (execs (b₀ :: suite) (envX name scope L a cd cl)) Q E { s' with heap := h' })
    (hE : PassesOwnAt (model prog w) (A.mark (some (.ref e))) A (envX name scope L a cd cl) E := by passes_own)
    (hk : scope.kind = .function := by rfl) (hx : (envX name scope L a cd cl).kindOf x = some .globalImplicit := by rfl) (hd : (x == ("__debug__" : Str)) = false := by decide) :
    wpAny (model prog w) A (noteFrame (.ref e) (envX name scope L a cd cl))
      (fun _ s₂ => wpAny (model prog w) A (setFlight (.ref e) none) (fun _ s₃ =>
        wpAny (model prog w) A (handleBy (.ref e) (envX name scope L a cd cl) (.ExceptHandler (some (.Name x np)) none (b₀ :: suite) pos :: rest)) Q E s₃) E s₂) E s' := by
  obtain ⟨B, a0, hB, hBG, hl, hfl⟩ := R
  have one : ∀ b, b ∈ [envX name scope L a cd cl].filterMap (·.frame) → b = L := fun b hb => by simpa using hb
  have gnL : g.get? L = none := kts_self F
  have fr_at : ∀ h₅, B.StaysIn h₅ → G.UpToSlots h₅ → Fr g L h₅ m := fun h₅ st up =>
    ⟨up.ns F.ns, fun b o q => st b o (hBG b o (F.keep b o q) fun hm => by rw [one b hm, gnL] at q; cases q), F.above⟩
  refine wpAny_looks_onW hA rfl hfl fun h₄ hheld₄ hsm₄ => ?_
  refine wpAny_landsW hheld₄ fun h₅ hheld hsm₅ => ?_
  have up5 := hsm.trans (hsm₄.trans hsm₅)
  have F5 := fr_at h₅ hheld.1 up5
  have LT : Looks (model prog w) h₅ (typeOf (.ref e)) cls := by
    obtain ⟨ob, hob, hcl⟩ := hheld.there
    subst hcl
    exact (Looks.ld hob).andThen .now
  refine wpAny_handleBy_cons (codeAny_handlers_test (nameX_any hc F5 X (topRead_of T) ((exm_one (X.keeps F5.keep) LT he).here ?_) hk hx hd)) (by intro q; cases q)
  refine codeAny_handlers_suite ?_
  refine lands_againW hheld fun h₆ hfl₆ hsm₆ => ?_
  have F6 := fr_at h₆ hfl₆.1 (up5.trans hsm₆)
  have hL : B.get? L = none := by
    obtain ⟨_, ⟨L', _, hf, hn', _⟩, _⟩ := hheld.2.2.1
    obtain rfl : L = L' := Option.some.inj hf
    exact hn'
  exact wpAny_passesOwnAt hE (k h₆ F6 fun q hq => ⟨hfl₆.1 _ _ (hl q hq).1, (fun z => by have := (hl q hq).1; rw [z, hL] at this; cases this), (hl q hq).2.2⟩)
end
theorem loadX {M : Model} {A : Around} {E : Value → Shared → Prop} {s : Shared} {g : Heap} {L a : Addr} {m : Str → Option Value} {name : Str} {scope : Scope} {cd v : Value} {cl : List (Str × Addr)} {x : Str} {Q : Value → Shared → Prop} (F : Fr g L s.heap m) (hv : m x = some v) (h : Q v s)
    (hk : scope.kind = .function := by rfl) (hl : (envX name scope L a cd cl).kindOf x = some .local := by rfl) : wpAny M A (loadName (envX name scope L a cd cl) x) Q E s := wpAny_loadName_local hk hl F.ns hv h
theorem ne_diff {prog : Program} {w : World} {A : Around} {E : Value → Shared → Prop} {s : Shared} {a b : Int} {t u : Tok} {Q : Value → Shared → Prop} (e : a ≠ b) (h : Q (.bool true) s) : wpAny (model prog w) A (compareOp .NotEq (.int a t) (.int b u)) Q E s := by
  refine ne_int ?_
  have : (a != b) = true := by simpa using e
  rw [this]; exact h
theorem led2 {α : Type} {P : α → Prop} {a b : α} (h1 : P a) (h2 : P b) : ∀ q ∈ [a, b], P q := by
  intro q hq
  simp only [List.mem_cons, List.not_mem_nil, or_false] at hq
  rcases hq with rfl | rfl <;> assumption
end -- S23b
section -- S24
theorem lines_s24_1 : True := by
  w_top off
  k_with_none
  (k_with "exec For Name Call cons nil" => (refine stop ?_))
  (k_with "exec For Name Call" => (refine stop ?_))
  (k_with "pyIter ref" => (refine stop ?_))
  (k_with "k_room" => (((try simp only [depth_under_make, depth_under_kw, depth_in1, depth_deeper, depth_caller]); omega)))
  (k_with "compareOp NotEq int int" => (refine ne_same ?_))
  (k_with "call ref" => ((k_here; (with_reducible show wpAny _ _ (call (Value.ref _) [Value.bytes _ _, Value.str _ _]) _ _ _); k_dflt (refine' from_big ?q6N ?q6m ?q6l ?q6p ?_; (case q6N => k_asm); (case q6m => k_mem); (case q6l => omega); (case q6p => assumption)); intro t' k')))
  (k_with "z cj" => (first | with_reducible assumption | exact And.left (by with_reducible assumption) | exact And.left (And.right (by with_reducible assumption)) | exact And.left (And.right (And.right (by with_reducible assumption))) | exact And.left (And.right (And.right (And.right (by with_reducible assumption)))) | exact And.left (And.right (And.right (And.right (And.right (by with_reducible assumption))))) | exact And.left (And.right (And.right (And.right (And.right (And.right (by with_reducible assumption)))))) | exact And.left (And.right (And.right (And.right (And.right (And.right (And.right (by with_reducible assumption))))))) | exact And.left (And.right (And.right (And.right (And.right (And.right (And.right (And.right (by with_reducible assumption)))))))) | exact And.right (by with_reducible assumption) | exact And.right (And.right (by with_reducible assumption)) | exact And.right (And.right (And.right (by with_reducible assumption))) | exact And.right (And.right (And.right (And.right (by with_reducible assumption)))) | exact And.right (And.right (And.right (And.right (And.right (by with_reducible assumption))))) | exact And.right (And.right (And.right (And.right (And.right (And.right (by with_reducible assumption)))))) | exact And.right (And.right (And.right (And.right (And.right (And.right (And.right (by with_reducible assumption)))))))))
  (k_with "z ne1" => (first | k_extra "z cj" | (refine Ne.symm ?_; k_extra "z cj") | exact AllNe.at1 (by with_reducible assumption) (by k_mem) | exact AllNe.at2 (by with_reducible assumption) (by k_mem) | omega))
  (k_with "k_ne" => ((refine PySem.W.neN ?_; (try dsimp only); k_extra "z ne1")))
  (k_with "execs cons" => (((with_reducible show wpAny _ _ (execs (Stmt.Assign _ _ _ :: _) _) _ _ _); refine execsGen fun P8 hP8 => ?_)))
  (k_with "execs cons" => (((with_reducible show wpAny _ _ (execs (Stmt.Expr _ _ :: _) _) _ _ _); refine execsGen fun P8 hP8 => ?_)))
  (k_with "execs cons" => (((with_reducible show wpAny _ _ (execs (Stmt.AugAssign _ _ _ _ :: _) _) _ _ _); refine execsGen fun P8 hP8 => ?_)))
  (k_with "FinQ" => ((refine finOut (by with_reducible assumption) ?_; (try dsimp only))))
  (k_with "call ref" => ((k_here; (with_reducible show wpAny _ _ (call (Value.ref 34) [Value.bytes _ _]) _ _ _); k_dflt (refine' call_valid_bytes ?q7B ?q7F ?q7X ?q7T ?q7N ?q7c1 ?q7c2 ?q7c3 ?q7c4 ?q7r ?_; (case q7F => k_asm); (case q7N => k_asm); (case q7B => k_asm); (case q7X => k_asm); (case q7T => k_asm); (case q7c1 => exact rfl); (case q7c2 => exact rfl); (case q7c3 => exact rfl); (case q7c4 => exact rfl); (case q7r => k_room)); intro h' tk' F' N'; (try k_sweep))))
  (k_with "call ref" => ((k_here; (with_reducible show wpAny _ _ (call (Value.ref 41) [Value.bytes _ _, Value.int _ _]) _ _ _); k_dflt (refine' call_valid_length ?q8B ?q8F ?q8X ?q8T ?q8N ?q8c1 ?q8c2 ?q8c3 ?q8c4 ?q8r ?q8z ?q8n ?_; (case q8F => k_asm); (case q8N => k_asm); (case q8B => k_asm); (case q8X => k_asm); (case q8T => k_asm); (case q8c1 => exact rfl); (case q8c2 => exact rfl); (case q8c3 => exact rfl); (case q8c4 => exact rfl); (case q8r => k_room); (case q8z => omega); (case q8n => omega)); intro h' tk' F' N'; (try k_sweep))))
  (k_with "compareOp NotEq int int" => ((k_here; refine ne_diff (by assumption) ?_)))
  trivial
section
variable {prog : Program} {w : World} {A : Around} {s : Shared} {g : Heap} {R : Result → Shared → Prop} {b : Array UInt8} {t u : Tok} {n : Nat}
set_option maxHeartbeats 4000000 in
theorem vlen_bad (S : SiteX w A g s.heap) (hroom : A.depth + 3 < recursionLimit) (hz : b.size ≤ 1000) (hn1 : n ≤ 100) (hn : (b.size : Int) ≠ (n : Int))
    (rais : ∀ base fr e h' tk', Below A base fr g → RaisedSN base g fr e (.ref 24) [] h' → g.UpToSlots h' → R (.error (.ref e)) { s with heap := h', toks := tk' }) :
    codeAny (model prog w) A (.call (.ref 41) ⟨[.bytes b t, .int (n : Int) u], []⟩) R s := by
  refine enterKX (led := []) (binds := [("value", .bytes b t), ("length", .int (n : Int) u)]) S (fun p hp => nomatch hp) (by k_is) (by k_is) (by omega) (BindsTo.of_eq rfl) (locs rfl) ?_ (by decide) rfl rfl rfl
  intro base fr dp un gd pp loose mean mg mb pp' loose' mean' mg' mb' L h₁ eA B X TT XB TB DD F N l1
  subst eA
  simp only [Ar] at hroom
  k_steps
  exact rais base fr _ _ _ B (RaisedS.toSN (by assumption)) (by assumption)
end
section
variable {prog : Program} {w : World} {A : Around} {s : Shared} {g : Heap} {E Q : Value → Shared → Prop} {L : Addr} {m : Str → Option Value} {base : Heap} {fr : List Env} {env : Env} {news : List (Addr × Obj)}
  {p p' : Program} {loose loose' : List Str} {mean mean' : ExcName → Option Value} {mg mb mg' mb' : Str → Option Value} {A₀ : Around}
/-- a call that raises whatever comes -/
theorem call_bad {f cls : Value} {args : List Value} {kw : List (Str × Value)} (led : List (Addr × Obj)) (B : Below A₀ base fr g) (F : Fr g L s.heap m) (X : (hd0.heap_1 w.params).In g) (TT : Top p loose mean mg mb g) (XB : (hd0.heap_1 w.params).In base) (TB : Top p' loose' mean' mg' mb' base) (DD : KtsDicts (fr.filterMap (·.frame)) g) (N : News g L s.heap news) (hA : A.frames = some (env :: fr)) (hf : env.frame = some L) (hke : env.scope.kind = .function) (hh : A.handled = none)
    (hl : ∀ p ∈ led, p ∈ news)
    (c : ∀ {R : Result → Shared → Prop}, SiteX w A (hideAll s.heap (led.map (·.1))) s.heap → Led (hideAll s.heap (led.map (·.1))) s.heap led →
      (∀ base fr e h' tk', Below A base fr (hideAll s.heap (led.map (·.1))) → RaisedSN base (hideAll s.heap (led.map (·.1))) fr e cls led h' → (hideAll s.heap (led.map (·.1))).UpToSlots h' → R (.error (.ref e)) { s with heap := h', toks := tk' }) → codeAny (model prog w) A (.call f ⟨args, kw⟩) R s)
    (bad : ∀ e g₂ h' tk', RaisedSN base g₂ (env :: fr) e cls news h' → g₂.UpToSlots h' → Fr g L g₂ m → E (.ref e) { s with heap := h', toks := tk' }) : wpAny (model prog w) A (call f args kw) Q E s := by
  obtain ⟨S, hL⟩ := site_ofX B F X TT XB TB DD (led := led) (fun q hq => N q (hl q hq)) hA hf hke hh
  refine wpAny_call (c S hL fun b0 f0 e h' tk' B0 R U => ?_)
  have ef : f0 = env :: fr := Option.some.inj (B0.stack.symm.trans hA)
  subst ef
  obtain ⟨R', U', F'⟩ := raise_back B F N hl hf hke R U
  exact bad e _ h' tk' R' U' F'
end
theorem lines_s24_2 : True := by
  (k_with "nm_bad" => ((intro eP gP hP tkP RP UP FP; (try dsimp only))))
  (k_with "call ref" => ((k_here; (with_reducible show wpAny _ _ (call (Value.ref 41) [Value.bytes _ _, Value.int _ _]) _ _ _); k_dflt (refine' call_bad [] ?q43B ?q43F ?q43X ?q43T ?q43XB ?q43TB ?q43D ?q43N ?q43c1 ?q43c2 ?q43c3 ?q43c4 ?q43l ?q43c ?_; (case q43F => k_asm); (case q43N => k_asm); (case q43B => k_asm); (case q43X => k_asm); (case q43T => k_asm); (case q43D => k_asm); (case q43XB => assumption); (case q43TB => assumption); (case q43c1 => exact rfl); (case q43c2 => exact rfl); (case q43c3 => exact rfl); (case q43c4 => exact rfl); (case q43l => exact fun q hq => nomatch hq); (case q43c => exact fun S _ r => vlen_bad S (by k_room) (by omega) (by omega) (by assumption) r)); k_extra "nm_bad")))
  trivial
section
variable {prog : Program} {w : World} {A : Around} {s : Shared} {g : Heap} {R : Result → Shared → Prop} {x dx : Addr} {key : Array UInt8} {kt t1 t2 t3 t4 t5 t6 u1 vt : Tok} {size : Nat} {v v2 v3 v4 v5 v6 : Value}
set_option maxHeartbeats 4000000 in
theorem get__bad (S : SiteX w A g s.heap) (hL : Led g s.heap [(x, instObj 140 dx), (dx, dictOf (treeEs w t1 t2 t3 t4 t5 t6 (.int size u1) v2 v3 v4 v5 v6) 6)])
    (hne : @Ne Nat x dx) (hroom : A.depth + 14 < recursionLimit) (hs2 : size ≤ 2) (hz : key.size ≤ 1000) (hkey : (key.size : Int) ≠ (size : Int))
    (rais : ∀ base fr e h' tk', Below A base fr g → RaisedSN base g fr e (.ref 24) [(x, instObj 140 dx), (dx, dictOf (treeEs w t1 t2 t3 t4 t5 t6 (.int size u1) v2 v3 v4 v5 v6) 6)] h' → g.UpToSlots h' → R (.error (.ref e)) { s with heap := h', toks := tk' }) :
    codeAny (model prog w) A (.call (.ref 88) ⟨[.ref x, .bytes key kt], []⟩) R s := by
  refine enterKX (binds := [("self", .ref x), ("key", .bytes key kt)]) S hL (by k_is) (by k_is) (by omega) (BindsTo.of_eq rfl) (locs rfl) ?_ (by decide) rfl rfl rfl
  intro base fr dp un gd pp loose mean mg mb pp' loose' mean' mg' mb' L h₁ eA B X TT XB TB DD F N l1
  subst eA
  simp only [Ar] at hroom
  have hs9 : size ≤ 100 := by omega
  k_steps
  first
    | (with_reducible rename RaisedSN _ _ _ _ _ _ _ => S9; exact rais base fr _ _ _ B S9 (by assumption))
    | exact rais base fr _ _ _ B (RaisedS.toSN (by assumption)) (by assumption)
set_option maxHeartbeats 4000000 in
theorem set_bad (S : SiteX w A g s.heap) (hL : Led g s.heap [(x, instObj 140 dx), (dx, dictOf (treeEs w t1 t2 t3 t4 t5 t6 (.int size u1) v2 v3 v4 v5 v6) 6)])
    (hne : @Ne Nat x dx) (hroom : A.depth + 14 < recursionLimit) (hs2 : size ≤ 2) (hz : key.size ≤ 1000) (hkey : (key.size : Int) ≠ (size : Int))
    (rais : ∀ base fr e h' tk', Below A base fr g → RaisedSN base g fr e (.ref 24) [(x, instObj 140 dx), (dx, dictOf (treeEs w t1 t2 t3 t4 t5 t6 (.int size u1) v2 v3 v4 v5 v6) 6)] h' → g.UpToSlots h' → R (.error (.ref e)) { s with heap := h', toks := tk' }) :
    codeAny (model prog w) A (.call (.ref 95) ⟨[.ref x, .bytes key kt, v], []⟩) R s := by
  refine enterKX (binds := [("self", .ref x), ("key", .bytes key kt), ("value", v)]) S hL (by k_is) (by k_is) (by omega) (BindsTo.of_eq rfl) (locs rfl) ?_ (by decide) rfl rfl rfl
  intro base fr dp un gd pp loose mean mg mb pp' loose' mean' mg' mb' L h₁ eA B X TT XB TB DD F N l1
  subst eA
  simp only [Ar] at hroom
  have hs9 : size ≤ 100 := by omega
  k_steps
  first
    | (with_reducible rename RaisedSN _ _ _ _ _ _ _ => S9; exact rais base fr _ _ _ B S9 (by assumption))
    | exact rais base fr _ _ _ B (RaisedS.toSN (by assumption)) (by assumption)
set_option maxHeartbeats 4000000 in
theorem exists_bad (S : SiteX w A g s.heap) (hL : Led g s.heap [(x, instObj 140 dx), (dx, dictOf (treeEs w t1 t2 t3 t4 t5 t6 (.int size u1) v2 v3 v4 v5 v6) 6)])
    (hne : @Ne Nat x dx) (hroom : A.depth + 14 < recursionLimit) (hs2 : size ≤ 2) (hz : key.size ≤ 1000) (hkey : (key.size : Int) ≠ (size : Int))
    (rais : ∀ base fr e h' tk', Below A base fr g → RaisedSN base g fr e (.ref 24) [(x, instObj 140 dx), (dx, dictOf (treeEs w t1 t2 t3 t4 t5 t6 (.int size u1) v2 v3 v4 v5 v6) 6)] h' → g.UpToSlots h' → R (.error (.ref e)) { s with heap := h', toks := tk' }) :
    codeAny (model prog w) A (.call (.ref 102) ⟨[.ref x, .bytes key kt], []⟩) R s := by
  refine enterKX (binds := [("self", .ref x), ("key", .bytes key kt)]) S hL (by k_is) (by k_is) (by omega) (BindsTo.of_eq rfl) (locs rfl) ?_ (by decide) rfl rfl rfl
  intro base fr dp un gd pp loose mean mg mb pp' loose' mean' mg' mb' L h₁ eA B X TT XB TB DD F N l1
  subst eA
  simp only [Ar] at hroom
  have hs9 : size ≤ 100 := by omega
  k_steps
  first
    | (with_reducible rename RaisedSN _ _ _ _ _ _ _ => S9; exact rais base fr _ _ _ B S9 (by assumption))
    | exact rais base fr _ _ _ B (RaisedS.toSN (by assumption)) (by assumption)
end
section
variable {prog : Program} {w : World} {A : Around} {s : Shared} {g : Heap} {R : Result → Shared → Prop} {x dx : Addr} {key : Array UInt8} {kt t1 t2 t3 t4 t5 t6 u1 vt : Tok} {size : Nat} {v v2 v3 v4 v5 v6 : Value}
set_option maxHeartbeats 4000000 in
theorem getp_bad (S : SiteX w A g s.heap) (hL : Led g s.heap [(x, instObj 140 dx), (dx, dictOf (treeEs w t1 t2 t3 t4 t5 t6 (.int size u1) v2 v3 v4 v5 v6) 6)])
    (hne : @Ne Nat x dx) (hroom : A.depth + 14 < recursionLimit) (hs2 : size ≤ 2) (hz : key.size ≤ 1000) (hkey : (key.size : Int) ≠ (size : Int))
    (rais : ∀ base fr e h' tk', Below A base fr g → RaisedSN base g fr e (.ref 24) [(x, instObj 140 dx), (dx, dictOf (treeEs w t1 t2 t3 t4 t5 t6 (.int size u1) v2 v3 v4 v5 v6) 6)] h' → g.UpToSlots h' → R (.error (.ref e)) { s with heap := h', toks := tk' }) :
    codeAny (model prog w) A (.call (.ref 74) ⟨[.ref x, .bytes key kt], []⟩) R s := by
  refine enterKX (binds := [("self", .ref x), ("key", .bytes key kt)]) S hL (by k_is) (by k_is) (by omega) (BindsTo.of_eq rfl) (locs rfl) ?_ (by decide) rfl rfl rfl
  intro base fr dp un gd pp loose mean mg mb pp' loose' mean' mg' mb' L h₁ eA B X TT XB TB DD F N l1
  subst eA
  simp only [Ar] at hroom
  have hs9 : size ≤ 100 := by omega
  k_steps
  first
    | (with_reducible rename RaisedSN _ _ _ _ _ _ _ => S9; exact rais base fr _ _ _ B S9 (by assumption))
    | exact rais base fr _ _ _ B (RaisedS.toSN (by assumption)) (by assumption)
end
end -- S24
section -- S24b
theorem lines_s24b_1 : True := by
  w_top off
  k_with_none
  (k_with "exec For Name Call cons nil" => (refine stop ?_))
  (k_with "exec For Name Call" => (refine stop ?_))
  (k_with "pyIter ref" => (refine stop ?_))
  (k_with "k_room" => (((try simp only [depth_under_make, depth_under_kw, depth_in1, depth_deeper, depth_caller]); omega)))
  (k_with "compareOp NotEq int int" => (refine ne_same ?_))
  (k_with "call ref" => ((k_here; (with_reducible show wpAny _ _ (call (Value.ref _) [Value.bytes _ _, Value.str _ _]) _ _ _); k_dflt (refine' from_big ?q6N ?q6m ?q6l ?q6p ?_; (case q6N => k_asm); (case q6m => k_mem); (case q6l => omega); (case q6p => assumption)); intro t' k')))
  trivial
section
variable {prog : Program} {w : World} {A : Around} {s : Shared} {g : Heap} {R : Result → Shared → Prop} {u1 : Tok} {n : Int} {args : Args} {vx vh vd : Value}
set_option maxHeartbeats 4000000 in
theorem init_bad (S : SiteX w A g s.heap) (hroom : A.depth + 4 < recursionLimit) (hn : ¬ (1 ≤ n ∧ n ≤ 32))
    (hb : ∀ fd o, (hd0.heap_1 w.params).lookup 56 = some o → o.data = .func fd → BindsTo s fd args [("self", vx), ("hash_of", vh), ("key_size", .int n u1), ("default", vd)])
    (rais : ∀ base fr e h' tk', Below A base fr g → RaisedSN base g fr e (.ref 24) [] h' → g.UpToSlots h' → R (.error (.ref e)) { s with heap := h', toks := tk' }) :
    codeAny (model prog w) A (.call (.ref 56) args) R s := by
  refine enterKX (led := []) (binds := [("self", vx), ("hash_of", vh), ("key_size", .int n u1), ("default", vd)]) S (fun p hp => nomatch hp) (by k_is) (by k_is) (by omega) (hb _ _ (by k_is) rfl) (locs rfl) ?_ (by decide) rfl rfl rfl
  intro base fr dp un gd pp loose mean mg mb pp' loose' mean' mg' mb' L h₁ eA B X TT XB TB DD F N l1
  subst eA
  simp only [Ar] at hroom
  k_steps
  all_goals first
    | exact rais base fr _ _ _ B (RaisedS.toSN (by assumption)) (by assumption)
    | (exfalso; omega)
end
section
variable {prog : Program} {w : World} {A : Around} {s : Shared} {g : Heap} {E Q : Value → Shared → Prop} {L : Addr} {m : Str → Option Value} {base : Heap} {fr : List Env} {env : Env} {news : List (Addr × Obj)}
  {p p' : Program} {loose loose' : List Str} {mean mean' : ExcName → Option Value} {mg mb mg' mb' : Str → Option Value} {A₀ : Around} {n : Int} {u1 : Tok} {vh vd : Value} {pos : List Value} {kw : List (Str × Value)}
theorem new_bad (B : Below A₀ base fr g) (F : Fr g L s.heap m) (X : (hd0.heap_1 w.params).In g) (TT : Top p loose mean mg mb g) (XB : (hd0.heap_1 w.params).In base) (TB : Top p' loose' mean' mg' mb' base) (DD : KtsDicts (fr.filterMap (·.frame)) g) (N : News g L s.heap news) (hA : A.frames = some (env :: fr)) (hf : env.frame = some L) (hke : env.scope.kind = .function) (hh : A.handled = none)
    (hroom : A.depth + 5 < recursionLimit) (hn : ¬ (1 ≤ n ∧ n ≤ 32))
    (hb : ∀ x s' fd o, (hd0.heap_1 w.params).In s'.heap → (hd0.heap_1 w.params).lookup 56 = some o → o.data = .func fd → BindsTo s' fd ⟨.ref x :: pos, kw⟩ [("self", .ref x), ("hash_of", vh), ("key_size", .int n u1), ("default", vd)])
    (bad : ∀ e g₂ h' tk', RaisedSN base g₂ (env :: fr) e (.ref 24) news h' → g₂.UpToSlots h' → Fr g L g₂ m → E (.ref e) { s with heap := h', toks := tk' }) : wpAny (model prog w) A (call (.ref 140) pos kw) Q E s := by
  refine call_cls F X N (by k_is) (by k_is) (by k_is) fun x dx h1 F1 N1 l1 l2 => ?_
  obtain ⟨S, hL⟩ := site_ofX (A' := A.under (.builtin "type.__call__" ⟨.ref 140 :: pos, kw⟩)) B F1 X TT XB TB DD (led := []) (fun q hq => nomatch hq) hA hf hke hh
  refine init_bad (s := ⟨h1, _, _, _, _⟩) S hroom hn (fun fd o ho hd => hb x _ fd o (X.keeps F1.keep) ho hd) fun b0 f0 e h' tk' B0 R U => ?_
  have ef : f0 = env :: fr := Option.some.inj (B0.stack.symm.trans hA)
  subst ef
  obtain ⟨R', U', F'⟩ := raise_back (led := []) B F1 N1 (fun p hp => nomatch hp) hf hke R U
  show E (.ref e) _
  exact bad e _ h' tk' (raised_sub R' fun q hq => .tail _ (.tail _ hq)) U' F'
end
end -- S24b
section -- S25
theorem lines_s25_1 : True := by
  w_top off
  k_with_none
  (k_with "execs cons" => (((with_reducible show wpAny _ _ (execs (Stmt.Assign _ _ _ :: _) _) _ _ _); refine execsGen fun P8 hP8 => ?_)))
  (k_with "execs cons" => (((with_reducible show wpAny _ _ (execs (Stmt.Expr _ _ :: _) _) _ _ _); refine execsGen fun P8 hP8 => ?_)))
  (k_with "execs cons" => (((with_reducible show wpAny _ _ (execs (Stmt.AugAssign _ _ _ _ :: _) _) _ _ _); refine execsGen fun P8 hP8 => ?_)))
  (k_with "FinQ" => ((refine finOut (by with_reducible assumption) ?_; (try dsimp only))))
  (k_with "execs cons" => (((with_reducible show wpAny _ _ (execs (Stmt.Try _ _ _ _ _ :: _) _) _ _ _); refine execsGen fun P8 hP8 => ?_)))
  (k_with "execs cons" => (((with_reducible show wpAny _ _ (execs (Stmt.For _ _ _ _ _ :: _) _) _ _ _); refine execsGen fun P8 hP8 => ?_)))
  (k_with "exec Try" => (((with_reducible show wpAny _ _ (exec (Stmt.Try _ (_ :: _) _ [] _) _) _ _ _); refine wpAny_Try_except ?_)))
  (k_with "eval Name" => ((k_here; k_dflt (refine' nameX_L ?q10F ?q10v ?_ ?q10a ?q10b; (case q10a => rfl); (case q10b => rfl); (case q10F => k_asm); (case q10v => assumption); k_whole))))
  (k_with "k_ne" => (first | (refine PySem.W.neN ?_; (try dsimp only); first | exact Apx.l (by with_reducible assumption) (by k_mem) | exact Apx.r (by with_reducible assumption) (by k_mem) | exact AllNe.at1 (by with_reducible assumption) (by k_mem) | exact AllNe.at2 (by with_reducible assumption) (by k_mem) | omega)))
  (k_with "nm_c0" => ((intro hC F' N'; (try dsimp only at N'); (try k_sweep))))
  (k_with "noteFrame ref" => ((k_here; (first
  | (k_dflt (refine' catch0 (mean := _) ?q44A ?q44R ?q44F ?q44U ?q44X ?q44T ?q44c ?q44e ?_ ?q44hE ?q44hk ?q44hx ?q44hd; (case q44R => assumption); (case q44A => exact rfl); (case q44F => assumption); (case q44U => assumption); (case q44X => assumption); (case q44T => assumption)))
  | (k_dflt (refine' catch0 (mean := _) ?q44A ?q44R ?q44F ?q44U ?q44X ?q44T ?q44c ?q44e ?_ ?q44hE ?q44hk ?q44hx ?q44hd; (case q44R => exact RaisedS.toSN (by assumption)); (case q44A => exact rfl); (case q44F => assumption); (case q44U => assumption); (case q44X => assumption); (case q44T => assumption)))); (case q44c => kts_nm); (case q44e => kts_exm); (case q44hk => exact rfl); (case q44hx => exact rfl); (case q44hd => decide); (case q44hE => with_unfolding_all passes_own); k_extra "nm_c0")))
  (k_with "InitBack" => ((dsimp only [InitBack])))
  (k_with "loadName" => ((k_here; k_dflt (refine' loadX ?q45F ?q45v ?_ ?q45a ?q45b; (case q45a => rfl); (case q45b => rfl); (case q45F => k_asm); (case q45v => first | assumption | exact rfl); k_whole))))
  (k_with "newbinds" => ((intro x9 s9 fd9 o9 X9 ho9 hd9; (refine' lookup_inj ho9 ?q20h29 ?_; (case q20h29 => k_is); intro h39); subst h39; cases hd9; first | exact BindsTo.of_eq rfl | exact binds_K X9 rfl (by k_is) rfl rfl rfl)))
  (k_with "nm_bad" => ((intro eP gP hP tkP RP UP FP; (try dsimp only))))
  (k_with "call ref" => ((k_here; (with_reducible show wpAny _ _ (call (Value.ref 140) _ _) _ _ _); k_dflt (refine' new_bad ?q46B ?q46F ?q46X ?q46T ?q46XB ?q46TB ?q46D ?q46N ?q46c1 ?q46c2 ?q46c3 ?q46c4 ?q46r ?q46n ?q46hb ?_; (case q46F => k_asm); (case q46N => k_asm); (case q46B => k_asm); (case q46X => k_asm); (case q46T => k_asm); (case q46D => k_asm); (case q46XB => assumption); (case q46TB => assumption); (case q46c1 => exact rfl); (case q46c2 => exact rfl); (case q46c3 => exact rfl); (case q46c4 => exact rfl); (case q46hb => k_extra "newbinds"); (case q46r => k_room); (case q46n => decide)); k_extra "nm_bad")))
  (k_with "call ref" => ((k_here; (with_reducible show wpAny _ _ (call (Value.ref 95) [Value.ref _, Value.bytes _ _, _]) _ _ _); ((k_dflt (refine' call_bad [(_, instObj 140 _), (_, dictOf (treeEs _ _ _ _ _ _ _ (.int _ _) _ _ _ _ _) 6)] ?q47B ?q47F ?q47X ?q47T ?q47XB ?q47TB ?q47D ?q47N ?q47c1 ?q47c2 ?q47c3 ?q47c4 ?q47l ?q47c ?_; (case q47F => k_asm); (case q47N => k_asm); (case q47B => k_asm); (case q47X => k_asm); (case q47T => k_asm); (case q47D => k_asm); (case q47XB => assumption); (case q47TB => assumption); (case q47c1 => exact rfl); (case q47c2 => exact rfl); (case q47c3 => exact rfl); (case q47c4 => exact rfl); (case q47l => exact led2 (by k_mem) (by k_mem)); (case q47c => exact fun S H r => set_bad S H (by k_ne) (by k_room) (by omega) (by decide) (by (simp only [List.size_toArray]; first | omega | (simp; omega))) r)); k_extra "nm_bad")))))
  (k_with "call ref" => ((k_here; (with_reducible show wpAny _ _ (call (Value.ref 74) [Value.ref _, Value.bytes _ _]) _ _ _); ((k_dflt (refine' call_bad [(_, instObj 140 _), (_, dictOf (treeEs _ _ _ _ _ _ _ (.int _ _) _ _ _ _ _) 6)] ?q48B ?q48F ?q48X ?q48T ?q48XB ?q48TB ?q48D ?q48N ?q48c1 ?q48c2 ?q48c3 ?q48c4 ?q48l ?q48c ?_; (case q48F => k_asm); (case q48N => k_asm); (case q48B => k_asm); (case q48X => k_asm); (case q48T => k_asm); (case q48D => k_asm); (case q48XB => assumption); (case q48TB => assumption); (case q48c1 => exact rfl); (case q48c2 => exact rfl); (case q48c3 => exact rfl); (case q48c4 => exact rfl); (case q48l => exact led2 (by k_mem) (by k_mem)); (case q48c => exact fun S H r => getp_bad S H (by k_ne) (by k_room) (by omega) (by decide) (by (simp only [List.size_toArray]; first | omega | (simp; omega))) r)); k_extra "nm_bad")))))
  (k_with "call ref" => ((k_here; (with_reducible show wpAny _ _ (call (Value.ref 102) [Value.ref _, Value.bytes _ _]) _ _ _); ((k_dflt (refine' call_bad [(_, instObj 140 _), (_, dictOf (treeEs _ _ _ _ _ _ _ (.int _ _) _ _ _ _ _) 6)] ?q49B ?q49F ?q49X ?q49T ?q49XB ?q49TB ?q49D ?q49N ?q49c1 ?q49c2 ?q49c3 ?q49c4 ?q49l ?q49c ?_; (case q49F => k_asm); (case q49N => k_asm); (case q49B => k_asm); (case q49X => k_asm); (case q49T => k_asm); (case q49D => k_asm); (case q49XB => assumption); (case q49TB => assumption); (case q49c1 => exact rfl); (case q49c2 => exact rfl); (case q49c3 => exact rfl); (case q49c4 => exact rfl); (case q49l => exact led2 (by k_mem) (by k_mem)); (case q49c => exact fun S H r => exists_bad S H (by k_ne) (by k_room) (by omega) (by decide) (by (simp only [List.size_toArray]; first | omega | (simp; omega))) r)); k_extra "nm_bad")))))
  trivial
section
variable {prog : Program} {w : World} {g : Heap} {L fn : Addr} {s : Shared} {h : Heap} {tk : Nat} {m : Str → Option Value} {Q : Flow → Shared → Prop} {E1 : Value → Shared → Prop} {fa x dx da ta ca c1 c2 c3 c4 c5 : Addr} {ofa oca ocl o1 o2 o3 o4 : Obj} {ps : Array Value} {odb ot : Obj}
  {p : Program} {loose : List Str} {mean : ExcName → Option Value} {mg mb : Str → Option Value} {t1 t2 t3 t4 t5 t6 u1 u2 u3 u6 ut1 : Tok} {size : Nat} {dflt root : Array UInt8} {T : List Oct}
set_option maxHeartbeats 4000000 in
theorem seg_refused (B : Below callerA g [] g) (X : (hd0.heap_1 w.params).In g) (TT : Top p loose mean mg mb g) (F : Fr g L h m) 
    (N : News g L h [(x, instObj 140 dx), (dx, dictOf (treeEs w t1 t2 t3 t4 t5 t6 (.int size u1) (.int (8 * size : Int) u2) (.bytes dflt u3) (.ref fa) (.ref da) (.bytes root u6)) 6), (fa, ofa), (ca, oca), (186, tabObj ps)])
    (hA1 : Apx x [dx, fa, ca, 186]) (hA2 : Apx dx [fa, ca, 186]) (hA3 : Apx fa [ca, 186]) (hA4 : Apx ca [186])
    (hfn : FnAt fa h) (hs1 : 1 ≤ size) (hs2 : size ≤ 2) 
    (hm1 : m "_law_hash" = some (.ref fa)) (hm2 : m "tree" = some (.ref x))
    (hQ : ∀ h' tk', (∀ b o, g.get? b = some o → h'.get? b = some o) → GrownAt 186 h' → Q (.ret (.bool true)) { s with heap := h', toks := tk' }) :
    wpAny (model prog w) (callerA.deeper (lawEnv L fn)) (execs (lawBody.drop 22) (lawEnv L fn)) Q (fun e s' => wpAny (model prog w) (callerA.deeper (lawEnv L fn)) (leaving (lawEnv L fn) e) (fun _ s'' => E1 e s'') (fun e' s'' => E1 e' s'') s') { s with heap := h, toks := tk } := by
  conv in (execs (List.drop 22 lawBody) _) => arg 1; whnf
  conv in (execs _ (lawEnv L fn)) => arg 2; arg 2; whnf
  let od9 : Obj := dictOf (treeEs w t1 t2 t3 t4 t5 t6 (.int size u1) (.int (8 * size : Int) u2) (.bytes dflt u3) (.ref fa) (.ref da) (.bytes root u6)) 6
  have N : News g L h [(x, instObj 140 dx), (dx, od9), (fa, ofa), (ca, oca), (186, tabObj ps)] := N
  have XB := X
  have DD : KtsDicts [] g := fun b hb => by cases hb
  k_steps
  with_reducible rename Fr _ _ _ _ => F9
  with_reducible rename News _ _ _ _ => N9
  exact hQ _ _ F9.keep (GrownAt.of N9 (by k_mem))
end
end -- S25
section -- S26a
section
variable {prog : Program} {w : World} {A : Around} {E : Value → Shared → Prop} {s : Shared} {g : Heap} {L a b : Addr} {news : List (Addr × Obj)}
theorem ne_octs {b c : Array UInt8} {t u : Tok} {Q : Value → Shared → Prop} (e : b.toList = c.toList) (h : Q (.bool false) s) : wpAny (model prog w) A (compareOp .NotEq (.bytes b t) (.bytes c u)) Q E s := by
  refine ne_bytes ?_
  have : (b.toList != c.toList) = false := by rw [e]; simp
  rw [this]; exact h
theorem ne_tup {vs us : List Value} {bs : List Oct} {n k : Nat} {Q : Value → Shared → Prop} (N : News g L s.heap news) (m1 : (a, { cls := .type "tuple", data := .seq vs.toArray n }) ∈ news) (m2 : (b, { cls := .type "tuple", data := .seq us.toArray k }) ∈ news) (o1 : Octs vs bs) (o2 : Octs us bs) (hu : A.units < cLine)
    (h : Q (.bool false) s) : wpAny (model prog w) A (compareOp .NotEq (.ref a) (.ref b)) Q E s := by
  refine SeqAt.RcNeAt.tuples (e := fun _ => true) ⟨_, (N _ m1).1, rfl, n, rfl⟩ ⟨_, (N _ m2).1, rfl, k, rfl⟩ hu (fun j h1 h2 => ?_) prog w E Q ?_
  · have l1 : j < vs.length := by simpa using h1
    have l2 : j < us.length := by simpa using h2
    have e1 : (vs.map octOf)[j]? = (us.map octOf)[j]? := by rw [o1, o2]
    rw [List.getElem?_map, List.getElem?_map, List.getElem?_eq_getElem l1, List.getElem?_eq_getElem l2] at e1
    simp only [Option.map_some, Option.some.injEq] at e1
    have e3 : octOf vs[j] = (bs[j]?) := by
      have := congrArg (·[j]?) o1
      simp only [List.getElem?_map, List.getElem?_eq_getElem l1, Option.map_some] at this
      cases q : bs[j]? with
      | none => rw [q] at this; cases this
      | some y => rw [q] at this; simpa using this
    have hj : j < bs.length := by rw [← o1.length]; exact l1
    rw [List.getElem?_eq_getElem hj] at e3
    obtain ⟨x, t, ex, hx⟩ := octOf_some e3
    obtain ⟨y, u, ey, hy⟩ := octOf_some (e1 ▸ e3)
    intro prog w E Q hq
    simp only [List.getElem_toArray, ex, ey]
    refine eqBool_bytes ?_
    rw [hx, hy]; simpa using hq
  · have e : vs.toArray.size = us.toArray.size := by simp [o1.length, o2.length]
    have e2 : (List.range (min vs.toArray.size us.toArray.size)).all (fun _ => true) = true := List.all_eq_true.mpr fun _ _ => rfl
    rw [e2, e, beq_self_eq_true]
    exact h
end
section
variable {prog : Program} {w : World} {A : Around} {s : Shared} {g : Heap} {E : Value → Shared → Prop} {L : Addr} {m : Str → Option Value} {base : Heap} {fr : List Env} {env : Env} {news : List (Addr × Obj)}
  {p p' : Program} {loose loose' : List Str} {mean mean' : ExcName → Option Value} {mg mb mg' mb' : Str → Option Value} {A₀ : Around} {Q : Value → Shared → Prop}
theorem call_blanks {fa ta : Addr} {ot : Obj} {T : List Oct} {dflt : Array UInt8} {u1 u3 : Tok} {d : Nat} {gn : Obj → List (Addr × Obj)} (B : Below A₀ base fr g) (F : Fr g L s.heap m) (X : (hd0.heap_1 w.params).In g) (TT : Top p loose mean mg mb g) (N : News g L s.heap news) (hA : A.frames = some (env :: fr)) (hf : env.frame = some L) (hke : env.scope.kind = .function) (hh : A.handled = none)
    (H : HashFn (hideAll s.heap [ta]) fa ta) (hot : IsTbl prog w ot T) (U : UpdF ta ot news gn) (hsz : T.length ≤ 100000) (hroom : A.depth + 4 < recursionLimit) (hd2 : d ≤ 256) (lo : (ta == sysModules) = false)
    (h : ∀ l vs n h' tk' ot' T', Fr g L h' m → News g L h' ((l, listOf (List.toArray vs) n) :: gn ot') → AllNe l (gn ot') → Ext (d + 1) T T' → IsTbl prog w ot' T' → Blk T' dflt.toList (d + 1) vs → Q (.ref l) { s with heap := h', toks := tk' }) : wpAny (model prog w) A (call (.ref 165) [.int (d : Int) u1, .bytes dflt u3, .ref fa]) Q E s := by
  have hm : (ta, ot) ∈ news := UpdF.mem U
  have hl : ∀ q ∈ [(ta, ot)], q ∈ news := fun q hq => by rw [List.mem_singleton.mp hq]; exact hm
  obtain ⟨S, hL⟩ := site_of B F X TT (led := [(ta, ot)]) (fun q hq => N q (hl q hq)) hA hf hke hh
  refine wpAny_call (blanks_ S hL hroom hd2 H hot hsz lo fun l vs n ot' T' h' tk' k ho hl' fl e1 e2 e3 => ?_)
  obtain ⟨r1, r2⟩ := fresh_all N (led := [(ta, ot)]) fl
  refine h l vs n h' tk' ot' T' (fr_back F (led := [(ta, ot)]) (fun q hq => N q (hl q hq)) k) (fun q hq => ?_) (UpdF.addrs U r2 _) e1 e2 e3
  rcases List.mem_cons.mp hq with rfl | hq
  · exact new_back F hl' r1
  · exact news_upd N U k ho q hq
theorem call_number {n : Int} {u1 u3 : Tok} {size : Nat} (B : Below A₀ base fr g) (F : Fr g L s.heap m) (X : (hd0.heap_1 w.params).In g) (TT : Top p loose mean mg mb g) (N : News g L s.heap news) (hA : A.frames = some (env :: fr)) (hf : env.frame = some L) (hke : env.scope.kind = .function) (hh : A.handled = none)
    (hroom : A.depth + 6 < recursionLimit) (hs1 : 1 ≤ size) (hs2 : size ≤ 2)
    (h : ∀ (k : Nat) t h' tk', Fr g L h' m → News g L h' news → k < 2 ^ (8 * size) → Q (.int (k : Int) t) { s with heap := h', toks := tk' }) : wpAny (model prog w) A (call (.ref 158) [.int n u1, .int (8 * size : Int) u3]) Q E s := by
  refine wpAny_call (number_ (site_of B F X TT (led := []) (fun p hp => nomatch hp) hA hf hke hh).1 hroom hs1 hs2 fun k t h' tk' kp hk => ?_)
  exact h k t h' tk' (F.keptAll kp) (N.grown kp) hk
theorem call_fromdb {fa ta da qm : Addr} {ot odb : Obj} {T : List Oct} {root dflt : Array UInt8} {ut u1 u3 : Tok} {size : Nat} {gn : Obj → List (Addr × Obj)} (B : Below A₀ base fr g) (F : Fr g L s.heap m) (X : (hd0.heap_1 w.params).In g) (TT : Top p loose mean mg mb g) (N : News g L s.heap news) (hA : A.frames = some (env :: fr)) (hf : env.frame = some L) (hke : env.scope.kind = .function) (hh : A.handled = none)
    (hqm : (qm, methodObj (.ref 64) (.ref 140)) ∈ news) (m1 : (da, odb) ∈ news) (hne : @Ne Nat da ta) (H : HashFn (hideAll s.heap [da, ta]) fa ta) (hot : IsTbl prog w ot T) (U : UpdF ta ot news gn) (hsz : T.length ≤ 100000) (hroom : A.depth + 8 < recursionLimit) (lo : (ta == sysModules) = false) (hs1 : 1 ≤ size) (hs2 : size ≤ 32) (hrl : root.toList.length = 32)
    (h : ∀ x dx t1 t2 t3 t4 t5 t6 u2 h' tk' ot' T', Fr g L h' m → News g L h' ((x, instObj 140 dx) :: (dx, dictOf (treeEs w t1 t2 t3 t4 t5 t6 (.int size u1) (.int (8 * size : Int) u2) (.bytes dflt u3) (.ref fa) (.ref da) (.bytes root ut)) 6) :: gn ot') → AllNe x (gn ot') → AllNe dx (gn ot') → @Ne Nat x dx → Ext (8 * size + 1) T T' → IsTbl prog w ot' T' → Q (.ref x) { s with heap := h', toks := tk' }) :
    wpAny (model prog w) A (call (.ref qm) [.ref da, .bytes root ut, .ref fa, .int (size : Int) u1, .bytes dflt u3]) Q E s := by
  have hm : (ta, ot) ∈ news := UpdF.mem U
  have hl : ∀ q ∈ [(da, odb), (ta, ot)], q ∈ news := led2 m1 hm
  obtain ⟨S, hL⟩ := site_of B F X TT (led := [(da, odb), (ta, ot)]) (fun q hq => N q (hl q hq)) hA hf hke hh
  refine call_meth N hqm (from_db S hL hne hroom hs1 hs2 hrl H hot hsz lo fun x dx t1 t2 t3 t4 t5 t6 u2 ot' T' h' tk' k kl fx fd nx e1 e2 => ?_)
  obtain ⟨x1, x2⟩ := fresh_all N (led := [(da, odb), (ta, ot)]) fx
  obtain ⟨d1, d2⟩ := fresh_all N (led := [(da, odb), (ta, ot)]) fd
  have hda := kl _ (.tail _ (.tail _ (.head _)))
  have hta := kl _ (.tail _ (.tail _ (.tail _ (.head _))))
  refine h x dx t1 t2 t3 t4 t5 t6 u2 h' tk' ot' T' (fr_back F (led := [(da, odb), (ta, ot)]) (fun q hq => N q (hl q hq)) k) (fun q hq => ?_) (UpdF.addrs U x2 _) (UpdF.addrs U d2 _) nx e1 e2
  rcases List.mem_cons.mp hq with rfl | hq
  · exact new_back F (kl _ (.head _)) x1
  · rcases List.mem_cons.mp hq with rfl | hq
    · exact new_back F (kl _ (.tail _ (.head _))) d1
    · obtain ⟨pre, post, rfl, hg, ha, hb⟩ := U.split
      rw [hg] at hq
      have keep : ∀ p ∈ pre ++ (ta, ot) :: post, p.1 ≠ ta → h'.get? p.1 = some p.2 ∧ p.1 ≠ L ∧ g.get? p.1 = none := fun p hp hne => by
        refine ⟨?_, (N p hp).2⟩
        by_cases e : p.1 = da
        · have h1 := (N p hp).1
          rw [e, (N _ m1).1] at h1
          rw [e, hda, Option.some.inj h1]
        · exact k _ _ (hideAll_get _ (N p hp).1 (by simp [e, hne]))
      rcases List.mem_append.mp hq with hq | hq
      · exact keep q (List.mem_append_left _ hq) (ha q hq)
      · rcases List.mem_cons.mp hq with rfl | hq
        · exact ⟨hta, (N (ta, ot) (List.mem_append_right _ (.head _))).2⟩
        · exact keep q (List.mem_append_right _ (.tail _ hq)) (hb q hq)
theorem call_branch {fa x dx da : Addr} {odb : Obj} {T : List Oct} {D : List (Oct × Oct)} {key dflt root : Array UInt8} {kt t1 t2 t3 t4 t5 t6 u1 u2 u3 u6 : Tok} {size : Nat} {f : Nat → Oct} {pp : Nat} (B : Below A₀ base fr g) (F : Fr g L s.heap m) (X : (hd0.heap_1 w.params).In g) (TT : Top p loose mean mg mb g) (XB : (hd0.heap_1 w.params).In base) (TB : Top p' loose' mean' mg' mb' base) (DD : KtsDicts (fr.filterMap (·.frame)) g) (N : News g L s.heap news) (hA : A.frames = some (env :: fr)) (hf : env.frame = some L) (hke : env.scope.kind = .function) (hh : A.handled = none)
    (m1 : (x, instObj 140 dx) ∈ news) (m2 : (dx, dictOf (treeEs w t1 t2 t3 t4 t5 t6 (.int size u1) (.int (8 * size : Int) u2) (.bytes dflt u3) (.ref fa) (.ref da) (.bytes root u6)) 6) ∈ news) (m3 : (da, odb) ∈ news)
    (hne : @Ne Nat x dx ∧ @Ne Nat x da ∧ @Ne Nat dx da) (hroom : A.depth + 8 < recursionLimit) (hs1 : 1 ≤ size) (hs2 : size ≤ 2) (hkey : key.size = size) (hp : value (oInts key.toList) = (pp : Int)) (hp2 : pp < 2 ^ (8 * size)) (hdb : IsKB (bytesKind prog w) odb D)
    (hin : In T D (8 * size) f root.toList)
    (bad : BadK (∀ e g₂ h' tk', f pp = [] → RaisedSN base g₂ (env :: fr) e (.type "KeyError") news h' → g₂.UpToSlots h' → Fr g L g₂ m → E (.ref e) { s with heap := h', toks := tk' }))
    (h : ∀ q bvs bs n h' tk', Fr g L h' m → News g L h' ((q, { cls := .type "tuple", data := .seq (List.toArray bvs) n }) :: news) → AllNe q news → Octs bvs bs → Sibs T f pp (8 * size) bs → f pp ≠ [] → Q (.ref q) { s with heap := h', toks := tk' }) :
    wpAny (model prog w) A (call (.ref 81) [.ref x, .bytes key kt]) Q E s := by
  have hl : ∀ q ∈ treeLed w t1 t2 t3 t4 t5 t6 size u1 u2 dflt u3 fa da root u6 x dx odb, q ∈ news := led3 m1 m2 m3
  obtain ⟨S, hL⟩ := site_ofX B F X TT XB TB DD (led := _) (fun q hq => N q (hl q hq)) hA hf hke hh
  refine wpAny_call (branch_pub S hL hne hroom hs1 hs2 hkey hp hp2 hdb hin (fun q bvs bs n h' tk' k kl hq fq o1 o2 e2 => ?_) (fun b0 f0 e h' tk' e1 B0 R U => ?_))
  · have all := all_back k kl fun a ha => (N a (hl a ha)).1
    obtain ⟨q1, q2⟩ := fresh_all N (led := treeLed w t1 t2 t3 t4 t5 t6 size u1 u2 dflt u3 fa da root u6 x dx odb) fq
    refine h q bvs bs n h' tk' (F.keptAll all) (fun a ha => ?_) q2 o1 o2 e2
    rcases List.mem_cons.mp ha with rfl | ha
    · exact new_back F hq q1
    · exact N.grown all a ha
  · have ef : f0 = env :: fr := Option.some.inj (B0.stack.symm.trans hA)
    subst ef
    obtain ⟨R', U', F'⟩ := raise_back B F N hl hf hke R U
    exact bad e _ h' tk' e1 R' U' F'
theorem call_ways {fo bl : Addr} {ofd : Obj} {T : List Oct} {xs : FdX} {dflt : Oct} {f : Nat → Oct} {d pp nb nv : Nat} {vs : List Value} {t1 t2 : Tok} (B : Below A₀ base fr g) (F : Fr g L s.heap m) (X : (hd0.heap_1 w.params).In g) (TT : Top p loose mean mg mb g) (N : News g L s.heap news) (hA : A.frames = some (env :: fr)) (hf : env.frame = some L) (hke : env.scope.kind = .function) (hh : A.handled = none)
    (m1 : (bl, listOf vs.toArray nv) ∈ news) (m2 : (fo, ofd) ∈ news) (hne : @Ne Nat bl fo) (hroom : A.depth + 4 < recursionLimit) (hun : A.units + 20 < cLine) (hd : d ≤ 16) (hp : pp < 2 ^ d) (hblk : Blk T dflt nb vs) (hdn : d < nb) (hnb : nb ≤ 257)
    (hfd : FdObj prog w ofd xs) (hkeys : KeysAt prog w (hideAll s.heap [bl, fo]) xs) (cov : Cov T dflt xs f 0 d) (lo : (fo == sysModules) = false)
    (h : ∀ r q1 q2 v1 v2 b1 b2 n1 n2 n3 h' tk', Fr g L h' m → News g L h' ((r, { cls := .type "tuple", data := .seq #[.ref q1, .ref q2] n1 }) :: (q1, { cls := .type "tuple", data := .seq (List.toArray v1) n2 }) :: (q2, { cls := .type "tuple", data := .seq (List.toArray v2) n3 }) :: news) →
      Octs v1 b1 → Ons T f pp d b1 → Octs v2 b2 → Sibs T f pp d b2 → Q (.ref r) { s with heap := h', toks := tk' }) :
    wpAny (model prog w) A (call (.ref 177) [.ref fo, .int (pp : Int) t1, .int (d : Int) t2, .ref bl]) Q E s := by
  have hl : ∀ q ∈ [(bl, listOf vs.toArray nv), (fo, ofd)], q ∈ news := led2 m1 m2
  obtain ⟨S, hL⟩ := site_of B F X TT (led := [(bl, listOf vs.toArray nv), (fo, ofd)]) (fun q hq => N q (hl q hq)) hA hf hke hh
  refine wpAny_call (ways_ S hL hne hroom hun hd hp hblk hdn hnb hfd hkeys cov lo fun r q1 q2 v1 v2 b1 b2 n1 n2 n3 h' tk' k kl hr hq1 hq2 fr0 fq1 fq2 o1 s1 o2 s2 => ?_)
  have all := all_back k kl fun a ha => (N a (hl a ha)).1
  obtain ⟨x1, x2⟩ := fresh_all N (led := [(bl, ofd), (fo, ofd)]) fr0
  obtain ⟨y1, y2⟩ := fresh_all N (led := [(bl, ofd), (fo, ofd)]) fq1
  obtain ⟨z1, z2⟩ := fresh_all N (led := [(bl, ofd), (fo, ofd)]) fq2
  refine h r q1 q2 v1 v2 b1 b2 n1 n2 n3 h' tk' (F.keptAll all) (fun a ha => ?_) o1 s1 o2 s2
  rcases List.mem_cons.mp ha with rfl | ha
  · exact new_back F hr x1
  · rcases List.mem_cons.mp ha with rfl | ha
    · exact new_back F hq1 y1
    · rcases List.mem_cons.mp ha with rfl | ha
      · exact new_back F hq2 z1
      · exact N.grown all a ha
end
section
variable {prog : Program} {w : World} {A : Around} {s : Shared} {g : Heap} {E : Value → Shared → Prop} {L : Addr} {m : Str → Option Value} {base : Heap} {env : Env} {news : List (Addr × Obj)}
  {p p' : Program} {loose loose' : List Str} {mean mean' : ExcName → Option Value} {mg mb mg' mb' : Str → Option Value} {A₀ : Around} {Q : Value → Shared → Prop}
  {fa x dx da : Addr} {odb : Obj} {T : List Oct} {D : List (Oct × Oct)} {key dflt root due : Array UInt8} {kt vt t1 t2 t3 t4 t5 t6 u1 u2 u3 u6 : Tok} {size : Nat} {f : Nat → Oct} {pp : Nat} {sign : Bool}
theorem call_exists0 (B : Below A₀ base [] g) (F : Fr g L s.heap m) (X : (hd0.heap_1 w.params).In g) (TT : Top p loose mean mg mb g) (XB : (hd0.heap_1 w.params).In base) (TB : Top p' loose' mean' mg' mb' base) (N : News g L s.heap news) (hA : A.frames = some [env]) (hf : env.frame = some L) (hke : env.scope.kind = .function) (hh : A.handled = none)
    (m1 : (x, instObj 140 dx) ∈ news) (m2 : (dx, dictOf (treeEs w t1 t2 t3 t4 t5 t6 (.int size u1) (.int (8 * size : Int) u2) (.bytes dflt u3) (.ref fa) (.ref da) (.bytes root u6)) 6) ∈ news) (m3 : (da, odb) ∈ news)
    (hne : @Ne Nat x dx ∧ @Ne Nat x da ∧ @Ne Nat dx da) (hroom : A.depth + 11 < recursionLimit) (hs1 : 1 ≤ size) (hs2 : size ≤ 2) (hkey : key.size = size) (hp : value (oInts key.toList) = (pp : Int)) (hp2 : pp < 2 ^ (8 * size)) (hdb : IsKB (bytesKind prog w) odb D) (hin : In T D (8 * size) f root.toList)
    (h : ∀ h' tk', Fr g L h' m → News g L h' news → Q (.bool (decide (f pp ≠ []))) { s with heap := h', toks := tk' }) : wpAny (model prog w) A (call (.ref 102) [.ref x, .bytes key kt]) Q E s :=
  call_exists (fr := []) B F X TT XB TB ktsDicts_nil N hA hf hke hh m1 m2 m3 hne hroom hs1 hs2 hkey hp hp2 hdb hin fun gN h' tk' T F' N' _ _ _ _ => h h' tk' (fr_turn0 T F') (news_turn0 T N')
theorem call_contains0 (B : Below A₀ base [] g) (F : Fr g L s.heap m) (X : (hd0.heap_1 w.params).In g) (TT : Top p loose mean mg mb g) (XB : (hd0.heap_1 w.params).In base) (TB : Top p' loose' mean' mg' mb' base) (N : News g L s.heap news) (hA : A.frames = some [env]) (hf : env.frame = some L) (hke : env.scope.kind = .function) (hh : A.handled = none)
    (m1 : (x, instObj 140 dx) ∈ news) (m2 : (dx, dictOf (treeEs w t1 t2 t3 t4 t5 t6 (.int size u1) (.int (8 * size : Int) u2) (.bytes dflt u3) (.ref fa) (.ref da) (.bytes root u6)) 6) ∈ news) (m3 : (da, odb) ∈ news)
    (hne : @Ne Nat x dx ∧ @Ne Nat x da ∧ @Ne Nat dx da) (hroom : A.depth + 14 < recursionLimit) (hs1 : 1 ≤ size) (hs2 : size ≤ 2) (hkey : key.size = size) (hp : value (oInts key.toList) = (pp : Int)) (hp2 : pp < 2 ^ (8 * size)) (hdb : IsKB (bytesKind prog w) odb D) (hin : In T D (8 * size) f root.toList)
    (h : ∀ h' tk', Fr g L h' m → News g L h' news → Q (.bool (decide (f pp ≠ []))) { s with heap := h', toks := tk' }) : wpAny (model prog w) A (call (.ref 137) [.ref x, .bytes key kt]) Q E s :=
  call_contains (fr := []) B F X TT XB TB ktsDicts_nil N hA hf hke hh m1 m2 m3 hne hroom hs1 hs2 hkey hp hp2 hdb hin fun gN h' tk' T F' N' _ _ _ _ => h h' tk' (fr_turn0 T F') (news_turn0 T N')
theorem call_lawget0 (B : Below A₀ base [] g) (F : Fr g L s.heap m) (X : (hd0.heap_1 w.params).In g) (TT : Top p loose mean mg mb g) (XB : (hd0.heap_1 w.params).In base) (TB : Top p' loose' mean' mg' mb' base) (N : News g L s.heap news) (hA : A.frames = some [env]) (hf : env.frame = some L) (hke : env.scope.kind = .function) (hh : A.handled = none)
    (m1 : (x, instObj 140 dx) ∈ news) (m2 : (dx, dictOf (treeEs w t1 t2 t3 t4 t5 t6 (.int size u1) (.int (8 * size : Int) u2) (.bytes dflt u3) (.ref fa) (.ref da) (.bytes root u6)) 6) ∈ news) (m3 : (da, odb) ∈ news)
    (hne : @Ne Nat x dx ∧ @Ne Nat x da ∧ @Ne Nat dx da) (hroom : A.depth + 14 < recursionLimit) (hs1 : 1 ≤ size) (hs2 : size ≤ 2) (hkey : key.size = size) (hp : value (oInts key.toList) = (pp : Int)) (hp2 : pp < 2 ^ (8 * size)) (hdb : IsKB (bytesKind prog w) odb D) (hin : In T D (8 * size) f root.toList) (hdue : due.toList = f pp)
    (h : ∀ h' tk', Fr g L h' m → News g L h' news → Q (.bool true) { s with heap := h', toks := tk' }) : wpAny (model prog w) A (call (.ref 184) [.ref x, .bytes key kt, .bytes due vt, .bool sign]) Q E s := by
  have hl : ∀ q ∈ treeLed w t1 t2 t3 t4 t5 t6 size u1 u2 dflt u3 fa da root u6 x dx odb, q ∈ news := led3 m1 m2 m3
  obtain ⟨S, hL⟩ := site_ofX B F X TT XB TB ktsDicts_nil (led := _) (fun q hq => N q (hl q hq)) hA hf hke hh
  refine wpAny_call (law_get S hL hne hroom hs1 hs2 hkey hp hp2 hdb hin hdue fun g' h' tk' b0 f0 B0 T k kl => ?_)
  obtain ⟨gN, z1, z2, z3, z4, z5, z6, z7⟩ := turn_back B F N hl hA hf XB TB ktsDicts_nil B0 T k kl
  exact h h' tk' (fr_turn0 z1 z2) (news_turn0 z1 z3)
end
def ApL : List Nat → Prop
  | [] => True
  | a :: r => Apx a r ∧ ApL r
theorem Apx.nil (a : Nat) : Apx a [] := fun b hb => by cases hb
theorem Apx.cons {a b : Nat} {r : List Nat} (h : a ≠ b) (k : Apx a r) : Apx a (b :: r) := fun c hc => by
  rcases List.mem_cons.mp hc with rfl | hc
  · exact h
  · exact k c hc
theorem notin_nil {a : Addr} : a ∉ ([] : List Addr) := by intro h; cases h
theorem notin_cons {a b : Addr} {r : List Addr} (h : @Ne Nat a b) (k : a ∉ r) : a ∉ b :: r := fun hc => by
  rcases List.mem_cons.mp hc with e | hc
  · exact h e
  · exact k hc
def Sub (l all : List (Addr × Obj)) : Prop := ∀ p, p ∈ l → p ∈ all
theorem Sub.nil (all : List (Addr × Obj)) : Sub [] all := fun p hp => by cases hp
theorem Sub.cons {p : Addr × Obj} {l all : List (Addr × Obj)} (h : p ∈ all) (k : Sub l all) : Sub (p :: l) all := fun q hq => by
  rcases List.mem_cons.mp hq with rfl | hq
  · exact h
  · exact k q hq
theorem Sub.refl (l : List (Addr × Obj)) : Sub l l := fun _ h => h
theorem Sub.skip {p : Addr × Obj} {l all : List (Addr × Obj)} (h : Sub l all) : Sub l (p :: all) := fun q hq => .tail _ (h q hq)
theorem newsSub {g h : Heap} {L : Addr} {news l : List (Addr × Obj)} (N : News g L h news) (s : Sub l news) : News g L h l := fun p hp => N p (s p hp)
theorem hashNew {g h1 : Heap} {L fa ta ca cl x dx : Addr} {ofa oca ocl : Obj} {news : List (Addr × Obj)} (H : LawH ofa oca ocl ca cl ta) (m1 : (fa, ofa) ∈ news) (m2 : (ca, oca) ∈ news) (m3 : (cl, ocl) ∈ news) (n1 : @Ne Nat fa ta) (n2 : @Ne Nat ca ta) (n3 : @Ne Nat cl ta) (N : News g L h1 ((x, instObj 140 dx) :: (dx, dictOf [] 0) :: news)) (nx : AllNe x news) (nd : AllNe dx news) : HashFn (hideAll h1 [x, dx, ta]) fa ta :=
  H.at N (.tail _ (.tail _ m1)) (.tail _ (.tail _ m2)) (.tail _ (.tail _ m3)) (notin_cons (nx.all _ m1) (notin_cons (nd.all _ m1) (notin_cons n1 notin_nil))) (notin_cons (nx.all _ m2) (notin_cons (nd.all _ m2) (notin_cons n2 notin_nil))) (notin_cons (nx.all _ m3) (notin_cons (nd.all _ m3) (notin_cons n3 notin_nil)))
section
variable {prog : Program} {w : World} {A : Around} {E : Value → Shared → Prop} {s : Shared} {g : Heap} {L sc : Addr} {m : Str → Option Value} {items : List Value} {ns : List Int}
theorem script_true {Q : Bool → Shared → Prop} (F : Fr g L s.heap m) (hl : g.IsList sc items.toArray) (hi : IntsAre items ns) (hn : ns.length ≤ 63) (h1 : ns ≠ [] → ∀ tk, Q true { s with toks := tk }) (h0 : ns = [] → ∀ tk, Q false { s with toks := tk }) : wpAny (model prog w) A (truthy (.ref sc)) Q E s := by
  have hl' : s.heap.IsList sc items.toArray := let ⟨o, ho, r⟩ := hl; ⟨o, F.keep _ _ ho, r⟩
  have hlen : items.length = ns.length := hi.length
  refine wpAny_truthy_list hl' (by simp; omega) ?_
  cases hi with
  | nil => exact h0 rfl _
  | cons n u r => exact h1 (by simp) _
theorem script_item {value slice : PySem.Expr} {t : Tok} {Q : Value → Shared → Prop} (F : Fr g L s.heap m) (hl : g.IsList sc items.toArray) (hi : IntsAre items ns) (hn : ns ≠ []) (h : ∀ n u, Q (.int n u) s)
    (hs : subscripted slice false (.ref sc) (.int 0 t) = operate [.ref sc, .int 0 t] (getItem (.ref sc) (.int 0 t)) := by with_unfolding_all rfl) : wpAny (model prog w) A (subscriptTail value slice (.ref sc) (.int 0 t)) Q E s := by
  have hl' : s.heap.IsList sc items.toArray := let ⟨o, ho, r⟩ := hl; ⟨o, F.keep _ _ ho, r⟩
  cases hi with
  | nil => exact absurd rfl hn
  | cons n u r => exact tail_any hl'.typeIs slot_list_getitem.lookup (wpAny_getItem_list hl' (by omega) (by omega) (by rfl) (h n u)) hs
end
end -- S26a
section -- S26
theorem lines_s26_1 : True := by
  w_top off
  k_with_none
  (k_with "execs cons" => (((with_reducible show wpAny _ _ (execs (Stmt.Assign _ _ _ :: _) _) _ _ _); refine execsGen fun P8 hP8 => ?_)))
  (k_with "execs cons" => (((with_reducible show wpAny _ _ (execs (Stmt.Expr _ _ :: _) _) _ _ _); refine execsGen fun P8 hP8 => ?_)))
  (k_with "execs cons" => (((with_reducible show wpAny _ _ (execs (Stmt.AugAssign _ _ _ _ :: _) _) _ _ _); refine execsGen fun P8 hP8 => ?_)))
  (k_with "FinQ" => ((refine finOut (by with_reducible assumption) ?_; (try dsimp only))))
  (k_with "exec Try" => (((with_reducible show wpAny _ _ (exec (Stmt.Try _ (_ :: _) _ [] _) _) _ _ _); refine wpAny_Try_except ?_)))
  (k_with "eval Name" => ((k_here; k_dflt (refine' nameX_L ?q10F ?q10v ?_ ?q10a ?q10b; (case q10a => rfl); (case q10b => rfl); (case q10F => k_asm); (case q10v => assumption); k_whole))))
  (k_with "k_ne" => (first | (refine PySem.W.neN ?_; (try dsimp only); first | exact Apx.l (by with_reducible assumption) (by k_mem) | exact Apx.r (by with_reducible assumption) (by k_mem) | exact AllNe.at1 (by with_reducible assumption) (by k_mem) | exact AllNe.at2 (by with_reducible assumption) (by k_mem) | omega)))
  (k_with "nm_c0" => ((intro hC F' N'; (try dsimp only at N'); (try k_sweep))))
  (k_with "noteFrame ref" => ((k_here; (first
  | (k_dflt (refine' catch0 (mean := _) ?q44A ?q44R ?q44F ?q44U ?q44X ?q44T ?q44c ?q44e ?_ ?q44hE ?q44hk ?q44hx ?q44hd; (case q44R => assumption); (case q44A => exact rfl); (case q44F => assumption); (case q44U => assumption); (case q44X => assumption); (case q44T => assumption)))
  | (k_dflt (refine' catch0 (mean := _) ?q44A ?q44R ?q44F ?q44U ?q44X ?q44T ?q44c ?q44e ?_ ?q44hE ?q44hk ?q44hx ?q44hd; (case q44R => exact RaisedS.toSN (by assumption)); (case q44A => exact rfl); (case q44F => assumption); (case q44U => assumption); (case q44X => assumption); (case q44T => assumption)))); (case q44c => kts_nm); (case q44e => kts_exm); (case q44hk => exact rfl); (case q44hx => exact rfl); (case q44hd => decide); (case q44hE => with_unfolding_all passes_own); k_extra "nm_c0")))
  (k_with "InitBack" => ((dsimp only [InitBack])))
  (k_with "loadName" => ((k_here; k_dflt (refine' loadX ?q45F ?q45v ?_ ?q45a ?q45b; (case q45a => rfl); (case q45b => rfl); (case q45F => k_asm); (case q45v => first | assumption | exact rfl); k_whole))))
  (k_with "z apx" => (first | exact Apx.nil _ | (refine' Apx.cons ?q50za ?q50zb; (case q50za => k_ne); (case q50zb => k_extra "z apx"))))
  (k_with "z apl" => (first | exact True.intro | (refine' And.intro ?q51za ?q51zb; (case q51za => k_extra "z apx"); (case q51zb => k_extra "z apl"))))
  (k_with "z notin" => (first | exact notin_nil | (refine' notin_cons ?q52za ?q52zb; (case q52za => k_ne); (case q52zb => k_extra "z notin"))))
  (k_with "z sub" => (first | exact Sub.nil _ | (refine' Sub.cons ?q53za ?q53zb; (case q53za => k_mem); (case q53zb => k_extra "z sub"))))
  (k_with "z hash" => ((refine' LawH.at ?q54zh ?q54zn ?q54z1 ?q54z2 ?q54z3 ?q54z4 ?q54z5 ?q54z6; (case q54zh => assumption); (case q54zn => k_asm); (case q54z1 => k_mem); (case q54z2 => k_mem); (case q54z3 => k_mem); (case q54z4 => k_extra "z notin"); (case q54z5 => k_extra "z notin"); (case q54z6 => k_extra "z notin"))))
  (k_with "z hashnew" => ((intro h1 x dx F1 N1 nx nd; refine' hashNew ?q55zh ?q55z1 ?q55z2 ?q55z3 ?q55z4 ?q55z5 ?q55z6 N1 nx nd; (case q55zh => assumption); (case q55z1 => k_mem); (case q55z2 => k_mem); (case q55z3 => k_mem); (case q55z4 => k_ne); (case q55z5 => k_ne); (case q55z6 => k_ne))))
  (k_with "z binds" => ((intro x9 s9 fd9 o9 X9 ho9 hd9; (refine' lookup_inj ho9 ?q20h29 ?_; (case q20h29 => k_is); intro h39); subst h39; cases hd9; first | exact BindsTo.of_eq rfl | exact binds_K X9 rfl (by k_is) rfl rfl rfl)))
  (k_with "z nm new" => ((intro xN dN aN rootN t1N t2N t3N t4N t5N t6N u2N u6N oN odN TN DN h' tk' F' N' nxN ndN naN neN exN htN hdN okN lenN inN; (try dsimp only at N' nxN ndN naN); (have hlN := Ext.len exN))))
  (k_with "call ref" => ((k_here; (with_reducible show wpAny _ _ (call (Value.ref 140) _ _) _ _ _); k_dflt (refine' call_new (size := 32) ?q56B ?q56F ?q56X ?q56T ?q56N ?q56c1 ?q56c2 ?q56c3 ?q56c4 ?q56hb ?q56H ?q56ot ?q56U ?q56z ?q56r ?q56lo ?q56s1 ?q56s2 ?_; (case q56F => k_asm); (case q56N => k_asm); (case q56B => k_asm); (case q56X => k_asm); (case q56T => k_asm); (case q56c1 => exact rfl); (case q56c2 => exact rfl); (case q56c3 => exact rfl); (case q56c4 => exact rfl); (case q56hb => k_extra "z binds"); (case q56H => k_extra "z hashnew"); (case q56ot => assumption); (case q56U => k_updF); (case q56z => omega); (case q56r => k_room); (case q56lo => assumption); (case q56s1 => omega); (case q56s2 => omega)); k_extra "z nm new"; (try k_sweep))))
  (k_with "z nm blanks" => ((intro lK vsK nK h' tk' oK TK F' N' nlK exK htK blK; (try dsimp only at N' nlK); (have hlK := Ext.len exK))))
  (k_with "call ref" => ((k_here; (with_reducible show wpAny _ _ (call (Value.ref 165) _ _) _ _ _); k_dflt (refine' call_blanks (d := 256) ?q57B ?q57F ?q57X ?q57T ?q57N ?q57c1 ?q57c2 ?q57c3 ?q57c4 ?q57H ?q57ot ?q57U ?q57z ?q57r ?q57dd ?q57lo ?_; (case q57F => k_asm); (case q57N => k_asm); (case q57B => k_asm); (case q57X => k_asm); (case q57T => k_asm); (case q57c1 => exact rfl); (case q57c2 => exact rfl); (case q57c3 => exact rfl); (case q57c4 => exact rfl); (case q57H => k_extra "z hash"); (case q57ot => assumption); (case q57U => k_updF); (case q57z => omega); (case q57r => k_room); (case q57dd => omega); (case q57lo => assumption)); k_extra "z nm blanks"; (try k_sweep))))
  (k_with "z nm blk" => (intro bK uK hbK))
  (k_with "subscriptTail" => ((k_here; (with_reducible show wpAny _ _ (subscriptTail _ _ (Value.ref _) (Value.int _ _)) _ _ _); k_dflt (refine' item_blk (d := 256) ?q58N ?q58m ?q58b ?q58d ?q58n ?_; (case q58N => k_asm); (case q58m => k_mem); (case q58b => assumption); (case q58d => omega); (case q58n => omega)); k_extra "z nm blk")))
  (k_with "compareOp NotEq bytes bytes" => ((k_here; refine stop ?_)))
  (k_with "z nm sc" => (intro hsc9 tkSc))
  (k_with "truthy ref" => ((k_here; k_dflt (refine' script_true ?q59F ?q59l ?q59i ?q59n ?_ ?_; (case q59F => k_asm); (case q59l => assumption); (case q59i => assumption); (case q59n => assumption)); (all_goals k_extra "z nm sc"))))
  (k_with "z nm it" => (intro nIt uIt))
  (k_with "subscriptTail" => ((k_here; (with_reducible show wpAny _ _ (subscriptTail _ _ (Value.ref _) (Value.int 0 _)) _ _ _); k_dflt (refine' script_item ?q60F ?q60l ?q60i ?q60n ?_; (case q60F => k_asm); (case q60l => assumption); (case q60i => assumption); (case q60n => assumption)); k_extra "z nm it")))
  (k_with "z upd3" => (first | exact Upd3.nil | (refine' Upd3.one ?q61a; (case q61a => k_extra "z upd3")) | (refine' Upd3.two ?q61a; (case q61a => k_extra "z upd3")) | (refine' Upd3.three ?q61a; (case q61a => k_extra "z upd3")) | (refine' Upd3.skip ?q61n ?q61a; (case q61n => (refine ⟨?_, ?_, ?_⟩ <;> k_ne)); (case q61a => k_extra "z upd3"))))
  (k_with "z upd2" => (first | exact Upd2.nil | (refine' Upd2.one ?q62a; (case q62a => k_extra "z upd2")) | (refine' Upd2.two ?q62a; (case q62a => k_extra "z upd2")) | (refine' Upd2.skip ?q62n ?q62a; (case q62n => (refine ⟨?_, ?_⟩ <;> k_ne)); (case q62a => k_extra "z upd2")) | (refine' Upd2.rest ?q62a; (case q62a => assumption))))
  (k_with "execs cons" => (((with_reducible show wpAny _ _ (execs (Stmt.Assign _ _ ⟨219, _, _, _⟩ :: _) _) _ _ _); refine stop ?_)))
  trivial
section
variable {prog : Program} {w : World} {g : Heap} {L fn : Addr} {s : Shared} {h : Heap} {tk : Nat} {m : Str → Option Value} {Q : Flow → Shared → Prop} {E1 : Value → Shared → Prop} {fa x dx da ta ca c5 sc : Addr} {ofa oca ocl ot : Obj} {ps : Array Value}
  {p : Program} {loose : List Str} {mean : ExcName → Option Value} {mg mb : Str → Option Value} {t1 t2 t3 t4 t5 t6 u1 u2 u3 u6 : Tok} {size : Nat} {dflt root : Array UInt8} {T : List Oct} {items : List Value} {ns : List Int}
set_option maxHeartbeats 4000000 in
theorem seg_big (B : Below callerA g [] g) (X : (hd0.heap_1 w.params).In g) (TT : Top p loose mean mg mb g) (F : Fr g L h m) (hsc : g.IsList sc items.toArray) (hints : IntsAre items ns) (hns : ns.length ≤ 63)
    (N : News g L h [(x, instObj 140 dx), (dx, dictOf (treeEs w t1 t2 t3 t4 t5 t6 (.int size u1) (.int (8 * size : Int) u2) (.bytes dflt u3) (.ref fa) (.ref da) (.bytes root u6)) 6), (fa, ofa), (ca, oca), (c5, ocl), (ta, ot), (186, tabObj ps)])
    (hA : ApL [x, dx, fa, ca, c5, ta, 186]) (H : LawH ofa oca ocl ca c5 ta) (hot : IsTbl prog w ot T) (hsz : T.length ≤ 5000) (lo : (ta == sysModules) = false)
    (hs1 : 1 ≤ size) (hs2 : size ≤ 2) (hm1 : m "_law_hash" = some (.ref fa)) (hm2 : m "tree" = some (.ref x)) (hm3 : m "script" = some (.ref sc))
    (hQ : ∀ h' tk', (∀ b o, g.get? b = some o → h'.get? b = some o) → GrownAt 186 h' → Q (.ret (.bool true)) { s with heap := h', toks := tk' }) :
    wpAny (model prog w) (callerA.deeper (lawEnv L fn)) (execs (lawBody.drop 21) (lawEnv L fn)) Q (fun e s' => wpAny (model prog w) (callerA.deeper (lawEnv L fn)) (leaving (lawEnv L fn) e) (fun _ s'' => E1 e s'') (fun e' s'' => E1 e' s'') s') { s with heap := h, toks := tk } := by
  conv in (execs (List.drop 21 lawBody) _) => arg 1; whnf
  let od9 : Obj := dictOf (treeEs w t1 t2 t3 t4 t5 t6 (.int size u1) (.int (8 * size : Int) u2) (.bytes dflt u3) (.ref fa) (.ref da) (.bytes root u6)) 6
  have N : News g L h [(x, instObj 140 dx), (dx, od9), (fa, ofa), (ca, oca), (c5, ocl), (ta, ot), (186, tabObj ps)] := N
  obtain ⟨a1, a2, a3, a4, a5, a6, _⟩ := hA
  k_steps
  · unfold Stop
    have e9 : rootN.toList = bK.toList := Tr.det ((In.tr inN).ext exK) hbK
    refine ne_octs e9 ?_
    k_steps
    unfold Stop
    with_reducible rename Fr _ _ _ _ => F9
    with_reducible rename News _ _ _ _ => N9
    exact seg_refused B X TT F9 (newsSub (l := [(x, _), (dx, _), (fa, _), (ca, oca), (186, _)]) N9 (by k_extra "z sub")) (by k_extra "z apx") (by k_extra "z apx") (by k_extra "z apx") (by k_extra "z apx") (LawH.fnAt H N9 (by k_mem)) hs1 hs2 hm1 hm2 hQ
  all_goals unfold Stop
  all_goals (with_reducible rename Fr _ _ _ _ => F9)
  all_goals (with_reducible rename News _ _ _ _ => N9)
  all_goals exact seg_refused B X TT F9 (newsSub (l := [(x, _), (dx, _), (fa, _), (ca, oca), (186, _)]) N9 (by k_extra "z sub")) (by k_extra "z apx") (by k_extra "z apx") (by k_extra "z apx") (by k_extra "z apx") (LawH.fnAt H N9 (by k_mem)) hs1 hs2 hm1 hm2 hQ
end
end -- S26
section -- S27a
theorem list_true {prog : Program} {w : World} {A : Around} {E : Value → Shared → Prop} {s : Shared} {g : Heap} {L l : Addr} {news : List (Addr × Obj)} {vs : List Value} {n : Nat} {Q : Bool → Shared → Prop} (N : News g L s.heap news) (hm : (l, listOf vs.toArray n) ∈ news) (hn : vs ≠ []) (hz : vs.length ≤ 1000) (h : ∀ tk, Q true { s with toks := tk }) : wpAny (model prog w) A (truthy (.ref l)) Q E s := by
  have hl : s.heap.IsList l vs.toArray := ⟨_, (N _ hm).1, rfl, n, rfl⟩
  refine wpAny_truthy_list hl (by simp; omega) ?_
  cases vs with
  | nil => exact absurd rfl hn
  | cons a r => exact h _
theorem list_false {prog : Program} {w : World} {A : Around} {E : Value → Shared → Prop} {s : Shared} {g : Heap} {L l : Addr} {news : List (Addr × Obj)} {n : Nat} {Q : Bool → Shared → Prop} (N : News g L s.heap news) (hm : (l, listOf ([] : List Value).toArray n) ∈ news) (h : ∀ tk, Q false { s with toks := tk }) : wpAny (model prog w) A (truthy (.ref l)) Q E s := by
  have hl : s.heap.IsList l ([] : List Value).toArray := ⟨_, (N _ hm).1, rfl, n, rfl⟩
  exact wpAny_truthy_list hl (by simp) (h _)
theorem fd_empty {prog : Program} {w : World} {K : Type} [DecidableEq K] {k : KeyKind prog w K} {o : Obj} (h : o.IsDictOf k []) : FdObj prog w o [] := by
  obtain ⟨es, ep, hx, hd, hk, hp, hn⟩ := h
  have e : es.toList = [] := by
    generalize es.toList = l at hp
    cases hp; rfl
  exact ⟨es, ep, hx, hd, by rw [e]; rfl, List.nodup_nil⟩
theorem keys_empty {prog : Program} {w : World} (h : Heap) : KeysAt prog w h [] := fun x hx => by cases hx
theorem abs_empty (low d : Nat) : Abs [] low d := fun _ _ _ => rfl
theorem law_depth (L fn : Addr) : (callerA.deeper (lawEnv L fn)).depth + 90 < recursionLimit := by
  simp only [depth_deeper, depth_caller]; decide
theorem law_units (L fn : Addr) : (callerA.deeper (lawEnv L fn)).units + 100 < cLine := Nat.le_of_ble_eq_true rfl
end -- S27a
section -- S27
theorem lines_s27_1 : True := by
  w_top off
  k_with_none
  (k_with "execs cons" => (((with_reducible show wpAny _ _ (execs (Stmt.Assign _ _ _ :: _) _) _ _ _); refine execsGen fun P8 hP8 => ?_)))
  (k_with "execs cons" => (((with_reducible show wpAny _ _ (execs (Stmt.Expr _ _ :: _) _) _ _ _); refine execsGen fun P8 hP8 => ?_)))
  (k_with "execs cons" => (((with_reducible show wpAny _ _ (execs (Stmt.AugAssign _ _ _ _ :: _) _) _ _ _); refine execsGen fun P8 hP8 => ?_)))
  (k_with "FinQ" => ((refine finOut (by with_reducible assumption) ?_; (try dsimp only))))
  (k_with "exec Try" => (((with_reducible show wpAny _ _ (exec (Stmt.Try _ (_ :: _) _ [] _) _) _ _ _); refine wpAny_Try_except ?_)))
  (k_with "eval Name" => ((k_here; k_dflt (refine' nameX_L ?q10F ?q10v ?_ ?q10a ?q10b; (case q10a => rfl); (case q10b => rfl); (case q10F => k_asm); (case q10v => assumption); k_whole))))
  (k_with "k_ne" => (first | (refine PySem.W.neN ?_; (try dsimp only); first | exact Apx.l (by with_reducible assumption) (by k_mem) | exact Apx.r (by with_reducible assumption) (by k_mem) | exact AllNe.at1 (by with_reducible assumption) (by k_mem) | exact AllNe.at2 (by with_reducible assumption) (by k_mem) | omega)))
  (k_with "nm_c0" => ((intro hC F' N'; (try dsimp only at N'); (try k_sweep))))
  (k_with "noteFrame ref" => ((k_here; (first
  | (k_dflt (refine' catch0 (mean := _) ?q44A ?q44R ?q44F ?q44U ?q44X ?q44T ?q44c ?q44e ?_ ?q44hE ?q44hk ?q44hx ?q44hd; (case q44R => assumption); (case q44A => exact rfl); (case q44F => assumption); (case q44U => assumption); (case q44X => assumption); (case q44T => assumption)))
  | (k_dflt (refine' catch0 (mean := _) ?q44A ?q44R ?q44F ?q44U ?q44X ?q44T ?q44c ?q44e ?_ ?q44hE ?q44hk ?q44hx ?q44hd; (case q44R => exact RaisedS.toSN (by assumption)); (case q44A => exact rfl); (case q44F => assumption); (case q44U => assumption); (case q44X => assumption); (case q44T => assumption)))); (case q44c => kts_nm); (case q44e => kts_exm); (case q44hk => exact rfl); (case q44hx => exact rfl); (case q44hd => decide); (case q44hE => with_unfolding_all passes_own); k_extra "nm_c0")))
  (k_with "InitBack" => ((dsimp only [InitBack])))
  (k_with "loadName" => ((k_here; k_dflt (refine' loadX ?q45F ?q45v ?_ ?q45a ?q45b; (case q45a => rfl); (case q45b => rfl); (case q45F => k_asm); (case q45v => first | assumption | exact rfl); k_whole))))
  (k_with "z apx" => (first | exact Apx.nil _ | (refine' Apx.cons ?q50za ?q50zb; (case q50za => k_ne); (case q50zb => k_extra "z apx"))))
  (k_with "z apl" => (first | exact True.intro | (refine' And.intro ?q51za ?q51zb; (case q51za => k_extra "z apx"); (case q51zb => k_extra "z apl"))))
  (k_with "z notin" => (first | exact notin_nil | (refine' notin_cons ?q52za ?q52zb; (case q52za => k_ne); (case q52zb => k_extra "z notin"))))
  (k_with "z sub" => (first | exact Sub.nil _ | (refine' Sub.cons ?q53za ?q53zb; (case q53za => k_mem); (case q53zb => k_extra "z sub"))))
  (k_with "z hash" => ((refine' LawH.at ?q54zh ?q54zn ?q54z1 ?q54z2 ?q54z3 ?q54z4 ?q54z5 ?q54z6; (case q54zh => assumption); (case q54zn => k_asm); (case q54z1 => k_mem); (case q54z2 => k_mem); (case q54z3 => k_mem); (case q54z4 => k_extra "z notin"); (case q54z5 => k_extra "z notin"); (case q54z6 => k_extra "z notin"))))
  (k_with "z hashnew" => ((intro h1 x dx F1 N1 nx nd; refine' hashNew ?q55zh ?q55z1 ?q55z2 ?q55z3 ?q55z4 ?q55z5 ?q55z6 N1 nx nd; (case q55zh => assumption); (case q55z1 => k_mem); (case q55z2 => k_mem); (case q55z3 => k_mem); (case q55z4 => k_ne); (case q55z5 => k_ne); (case q55z6 => k_ne))))
  (k_with "z binds" => ((intro x9 s9 fd9 o9 X9 ho9 hd9; (refine' lookup_inj ho9 ?q20h29 ?_; (case q20h29 => k_is); intro h39); subst h39; cases hd9; first | exact BindsTo.of_eq rfl | exact binds_K X9 rfl (by k_is) rfl rfl rfl)))
  (k_with "z nm new" => ((intro xN dN aN rootN t1N t2N t3N t4N t5N t6N u2N u6N oN odN TN DN h' tk' F' N' nxN ndN naN neN exN htN hdN okN lenN inN; (try dsimp only at N' nxN ndN naN); (have hlN := Ext.len exN))))
  (k_with "call ref" => ((k_here; (with_reducible show wpAny _ _ (call (Value.ref 140) _ _) _ _ _); k_dflt (refine' call_new (size := 32) ?q56B ?q56F ?q56X ?q56T ?q56N ?q56c1 ?q56c2 ?q56c3 ?q56c4 ?q56hb ?q56H ?q56ot ?q56U ?q56z ?q56r ?q56lo ?q56s1 ?q56s2 ?_; (case q56F => k_asm); (case q56N => k_asm); (case q56B => k_asm); (case q56X => k_asm); (case q56T => k_asm); (case q56c1 => exact rfl); (case q56c2 => exact rfl); (case q56c3 => exact rfl); (case q56c4 => exact rfl); (case q56hb => k_extra "z binds"); (case q56H => k_extra "z hashnew"); (case q56ot => assumption); (case q56U => k_updF); (case q56z => omega); (case q56r => k_room); (case q56lo => assumption); (case q56s1 => omega); (case q56s2 => omega)); k_extra "z nm new"; (try k_sweep))))
  (k_with "z nm blanks" => ((intro lK vsK nK h' tk' oK TK F' N' nlK exK htK blK; (try dsimp only at N' nlK); (have hlK := Ext.len exK))))
  (k_with "call ref" => ((k_here; (with_reducible show wpAny _ _ (call (Value.ref 165) _ _) _ _ _); k_dflt (refine' call_blanks (d := 256) ?q57B ?q57F ?q57X ?q57T ?q57N ?q57c1 ?q57c2 ?q57c3 ?q57c4 ?q57H ?q57ot ?q57U ?q57z ?q57r ?q57dd ?q57lo ?_; (case q57F => k_asm); (case q57N => k_asm); (case q57B => k_asm); (case q57X => k_asm); (case q57T => k_asm); (case q57c1 => exact rfl); (case q57c2 => exact rfl); (case q57c3 => exact rfl); (case q57c4 => exact rfl); (case q57H => k_extra "z hash"); (case q57ot => assumption); (case q57U => k_updF); (case q57z => omega); (case q57r => k_room); (case q57dd => omega); (case q57lo => assumption)); k_extra "z nm blanks"; (try k_sweep))))
  (k_with "z nm blk" => (intro bK uK hbK))
  (k_with "subscriptTail" => ((k_here; (with_reducible show wpAny _ _ (subscriptTail _ _ (Value.ref _) (Value.int _ _)) _ _ _); k_dflt (refine' item_blk (d := 256) ?q58N ?q58m ?q58b ?q58d ?q58n ?_; (case q58N => k_asm); (case q58m => k_mem); (case q58b => assumption); (case q58d => omega); (case q58n => omega)); k_extra "z nm blk")))
  (k_with "compareOp NotEq bytes bytes" => ((k_here; refine stop ?_)))
  (k_with "z nm sc" => (intro hsc9 tkSc))
  (k_with "truthy ref" => ((k_here; k_dflt (refine' script_true ?q59F ?q59l ?q59i ?q59n ?_ ?_; (case q59F => k_asm); (case q59l => assumption); (case q59i => assumption); (case q59n => assumption)); (all_goals k_extra "z nm sc"))))
  (k_with "z nm it" => (intro nIt uIt))
  (k_with "subscriptTail" => ((k_here; (with_reducible show wpAny _ _ (subscriptTail _ _ (Value.ref _) (Value.int 0 _)) _ _ _); k_dflt (refine' script_item ?q60F ?q60l ?q60i ?q60n ?_; (case q60F => k_asm); (case q60l => assumption); (case q60i => assumption); (case q60n => assumption)); k_extra "z nm it")))
  (k_with "z upd3" => (first | exact Upd3.nil | (refine' Upd3.one ?q61a; (case q61a => k_extra "z upd3")) | (refine' Upd3.two ?q61a; (case q61a => k_extra "z upd3")) | (refine' Upd3.three ?q61a; (case q61a => k_extra "z upd3")) | (refine' Upd3.skip ?q61n ?q61a; (case q61n => (refine ⟨?_, ?_, ?_⟩ <;> k_ne)); (case q61a => k_extra "z upd3"))))
  (k_with "z upd2" => (first | exact Upd2.nil | (refine' Upd2.one ?q62a; (case q62a => k_extra "z upd2")) | (refine' Upd2.two ?q62a; (case q62a => k_extra "z upd2")) | (refine' Upd2.skip ?q62n ?q62a; (case q62n => (refine ⟨?_, ?_⟩ <;> k_ne)); (case q62a => k_extra "z upd2")) | (refine' Upd2.rest ?q62a; (case q62a => assumption))))
  (k_with "truthy ref" => ((k_here; (first
  | (k_dflt (refine' list_false ?q63N ?q63m ?_; (case q63N => k_asm); (case q63m => k_mem)))
  | (k_dflt (refine' list_true ?q63N ?q63m ?q63n ?q63z ?_; (case q63N => k_asm); (case q63m => k_mem); (case q63n => simp); (case q63z => simp; omega)))); (intro tk9))))
  (k_with "subscriptTail" => ((k_here; (with_reducible show wpAny _ _ (subscriptTail _ _ (Value.ref _) (Value.int (-1) _)) _ _ _); k_dflt (refine' listItems_neg ?q30N ?q30m ?q30z ?_; (case q30N => k_asm); (case q30m => k_mem); (case q30z => assumption)))))
  (k_with "z nm db" => ((intro xR dR t1R t2R t3R t4R t5R t6R u2R h' tk' oR TR F' N' nxR ndR neR exR htR; (try dsimp only at N' nxR ndR); (have hlR := Ext.len exR))))
  (k_with "call ref" => ((k_here; (with_reducible show wpAny _ _ (call (Value.ref _) [Value.ref _, Value.bytes _ _, Value.ref _, Value.int _ _, Value.bytes _ _] _) _ _ _); k_dflt (refine' call_fromdb ?q64B ?q64F ?q64X ?q64T ?q64N ?q64c1 ?q64c2 ?q64c3 ?q64c4 ?q64qm ?q64m1 ?q64ne ?q64H ?q64ot ?q64U ?q64z ?q64r ?q64lo ?q64s1 ?q64s2 ?q64rl ?_; (case q64F => k_asm); (case q64N => k_asm); (case q64B => k_asm); (case q64X => k_asm); (case q64T => k_asm); (case q64c1 => exact rfl); (case q64c2 => exact rfl); (case q64c3 => exact rfl); (case q64c4 => exact rfl); (case q64qm => k_mem); (case q64m1 => k_mem); (case q64H => k_extra "z hash"); (case q64ot => assumption); (case q64ne => k_ne); (case q64U => k_updF); (case q64z => omega); (case q64r => k_room); (case q64lo => assumption); (case q64s1 => omega); (case q64s2 => omega); (case q64rl => assumption)); k_extra "z nm db"; (try k_sweep))))
  (k_with "call ref" => ((k_here; (with_reducible show wpAny _ _ (call (Value.ref 109) _ _) _ _ _); refine stop ?_)))
  (k_with "call ref" => ((k_here; (with_reducible show wpAny _ _ (call (Value.ref 170) _ _) _ _ _); refine stop ?_)))
  (k_with "compareOp NotEq bytes bytes" => ((k_here; refine stop ?_)))
  (k_with "execs cons" => (((with_reducible show wpAny _ _ (execs (Stmt.If _ _ _ ⟨217, _, _, _⟩ :: _) _) _ _ _); refine stop ?_)))
  trivial
section
variable {prog : Program} {w : World} {g : Heap} {L fn : Addr} {s : Shared} {h : Heap} {tk : Nat} {m : Str → Option Value} {Q : Flow → Shared → Prop} {E1 : Value → Shared → Prop} {fa x dx da ta ca c5 sc pa q eo bl : Addr} {ofa oca ocl ot odb oe o1 o4 : Obj} {ps : Array Value}
  {p : Program} {loose : List Str} {mean : ExcName → Option Value} {mg mb : Str → Option Value} {t1 t2 t3 t4 t5 t6 u1 u2 u3 u6 us ud ut uq1 uq2 uq3 : Tok} {size np nq nv : Nat} {dflt root qr qn qv : Array UInt8} {T : List Oct} {D : List (Oct × Oct)} {De : List (Int × Oct)} {items ws vs : List Value} {ns : List Int} {fl : Nat → Oct} {kl : Nat}
set_option maxHeartbeats 4000000 in
theorem seg_late (B : Below callerA g [] g) (X : (hd0.heap_1 w.params).In g) (TT : Top p loose mean mg mb g) (F : Fr g L h m) (hsc : g.IsList sc items.toArray) (hints : IntsAre items ns) (hns : ns.length ≤ 63)
    (N : News g L h [(x, instObj 140 dx), (dx, dictOf (treeEs w t1 t2 t3 t4 t5 t6 (.int size u1) (.int (8 * size : Int) u2) (.bytes dflt u3) (.ref fa) (.ref da) (.bytes root u6)) 6), (da, odb), (pa, listOf (ws ++ [Value.ref q]).toArray np), (q, { cls := .type "tuple", data := .seq #[.bytes qr uq1, .bytes qn uq2, .bytes qv uq3] nq }), (eo, oe), (bl, listOf vs.toArray nv), (fa, ofa), (ca, oca), (c5, ocl), (ta, ot), (L + 1 + 1 + 1 + 1, o4), (L + 1, o1), (186, tabObj ps)])
    (hA : ApL [x, dx, da, pa, q, eo, bl, fa, ca, c5, ta, L + 1 + 1 + 1 + 1, L + 1, 186]) (H : LawH ofa oca ocl ca c5 ta) (hot : IsTbl prog w ot T) (hsz : T.length ≤ 2000) (lo : (ta == sysModules) = false) (loe : (eo == sysModules) = false)
    (hdb : IsKB (bytesKind prog w) odb D) (hszD : D.length ≤ 2000) (ok : DbOk T D) (hin : In T D (8 * size) fl qr.toList) (hqn : qn.size = size) (hqk : value (oInts qn.toList) = (kl : Int)) (hkl : kl < 2 ^ (8 * size))
    (he : IsKB (intKind prog w) oe De) (hel : De.length ≤ 10) (hrep : Rep De (upd fl kl dflt.toList) dflt.toList 0 (8 * size)) (hblk : Blk T dflt.toList (8 * size + 1) vs)
    (hd4 : o4.data = .cell (some (.ref eo))) (hd1 : o1.data = .cell (some (.int ((8 * size : Nat) : Int) ut))) (hwl : ws.length ≤ 10)
    (hs1 : 1 ≤ size) (hs2 : size ≤ 2) (hm1 : m "_law_hash" = some (.ref fa)) (hm2 : m "tree" = some (.ref x)) (hm3 : m "script" = some (.ref sc)) (hm4 : m "past" = some (.ref pa)) (hm5 : m "size" = some (.int (size : Int) us)) (hm6 : m "default" = some (.bytes dflt ud)) (hm7 : m "blanks" = some (.ref bl))
    (hQ : ∀ h' tk', (∀ b o, g.get? b = some o → h'.get? b = some o) → GrownAt 186 h' → Q (.ret (.bool true)) { s with heap := h', toks := tk' }) :
    wpAny (model prog w) (callerA.deeper (lawEnv L fn)) (execs (lawBody.drop 20) (lawEnv L fn)) Q (fun e s' => wpAny (model prog w) (callerA.deeper (lawEnv L fn)) (leaving (lawEnv L fn) e) (fun _ s'' => E1 e s'') (fun e' s'' => E1 e' s'') s') { s with heap := h, toks := tk } := by
  conv in (execs (List.drop 20 lawBody) _) => arg 1; whnf
  let od9 : Obj := dictOf (treeEs w t1 t2 t3 t4 t5 t6 (.int size u1) (.int (8 * size : Int) u2) (.bytes dflt u3) (.ref fa) (.ref da) (.bytes root u6)) 6
  have N : News g L h [(x, instObj 140 dx), (dx, od9), (da, odb), (pa, listOf (ws ++ [Value.ref q]).toArray np), (q, { cls := .type "tuple", data := .seq #[.bytes qr uq1, .bytes qn uq2, .bytes qv uq3] nq }), (eo, oe), (bl, listOf vs.toArray nv), (fa, ofa), (ca, oca), (c5, ocl), (ta, ot), (L + 1 + 1 + 1 + 1, o4), (L + 1, o1), (186, tabObj ps)] := N
  obtain ⟨a1, a2, a3, a4, a5, a6, a7, a8, a9, a10, a11, a12, a13, _⟩ := hA
  have hwl2 : ws.length ≤ 1000 := by omega
  have hrl : qr.toList.length = 32 := hin.tr.len
  k_steps
  unfold Stop
  with_reducible rename Fr _ _ _ _ => F1
  with_reducible rename News _ _ _ _ => N1
  have okR := DbOk.ext exR ok
  have hinR := In.over exR (Over.refl D) hin
  refine' call_delete B F1 X TT N1 rfl rfl rfl rfl ?m1 ?m2 ?m3 ?m4 ?U ?ne ?r hs1 hs2 hqn hqk hkl hdb ?H htR ?z ?zd lo okR hinR ?_
  case m1 => k_mem
  case m2 => k_mem
  case m3 => k_mem
  case m4 => k_mem
  case U => k_extra "z upd3"
  case ne => (refine ⟨?_, ?_, ?_, ?_, ?_, ?_⟩ <;> k_ne)
  case r => k_room
  case H => k_extra "z hash"
  case z => omega
  case zd => omega
  intro rS pvS bsS rootS n6S nS oS odS TS DS h' tk' F' N' nrS hoS onS hpS
  obtain ⟨exS, htS, hdS, okS, ovS, lenS, inS⟩ := hpS
  have hlS := exS.len
  try dsimp only at N'
  clear F1 N1
  k_steps
  unfold Stop
  with_reducible rename Fr _ _ _ _ => F2
  with_reducible rename News _ _ _ _ => N2
  refine pickO N2 fun fo ofo e1 e2 => ?_
  subst e1 e2
  have hfd0 : FdObj prog w ofo [] := fd_empty (by assumption)
  have hb2 := (hblk.ext exR).ext exS
  have hdl : De.length * (8 * size + 1) ≤ 10 * 17 := Nat.mul_le_mul hel (by omega)
  refine' call_top (top_all prog w (8 * size)) (low := 0) (f := upd fl kl dflt.toList) (dflt := dflt.toList) (xs := []) (D := De) B F2 X TT N2 rfl rfl rfl rfl ?m1 ?m2 ?m3 ?m4 ?U ?ne ?r ?un he ?dl loe hrep ?al hb2 ?dn ?nb hfd0 (keys_empty _) (abs_empty _ _) ?xl ?H htS ?z lo ?_
  case m1 => k_mem
  case m2 => k_mem
  case m3 => k_mem
  case m4 => k_mem
  case U => k_extra "z upd2"
  case ne => (refine ⟨?_, ?_, ?_, ?_, ?_, ?_⟩ <;> k_ne)
  case r => (have hr9 := law_depth L fn; omega)
  case un => (have hr9 := law_units L fn; omega)
  case dl => omega
  case al => exact Nat.zero_mod _
  case dn => omega
  case nb => omega
  case xl => (simp only [List.length_nil]; omega)
  case H => k_extra "z hash"
  case z => omega
  intro bT tT xsT keysT ofT oT TT' hT tkT FT NT hcT hnT kfT fdT covT soT exT htT trT lenT llT
  try dsimp only at NT
  have e9 : rootS.toList = bT.toList := Tr.det ((In.tr inS).ext exT) trT
  have hlT := exT.len
  clear F2 N2
  k_steps
  unfold Stop
  refine ne_octs e9 ?_
  k_steps
  unfold Stop
  with_reducible rename Fr _ _ _ _ => F9
  with_reducible rename News _ _ _ _ => N9
  exact seg_big B X TT F9 hsc hints hns (newsSub (l := [(x, _), (dx, _), (fa, _), (ca, _), (c5, _), (ta, oT), (186, _)]) N9 (by k_extra "z sub")) (by k_extra "z apl") H htT (by omega) lo hs1 hs2 hm1 hm2 hm3 hQ
end
section
variable {prog : Program} {w : World} {g : Heap} {L fn : Addr} {s : Shared} {h : Heap} {tk : Nat} {m : Str → Option Value} {Q : Flow → Shared → Prop} {E1 : Value → Shared → Prop} {fa x dx da ta ca c5 sc pa : Addr} {ofa oca ocl ot : Obj} {ps : Array Value}
  {p : Program} {loose : List Str} {mean : ExcName → Option Value} {mg mb : Str → Option Value} {t1 t2 t3 t4 t5 t6 u1 u2 u3 u6 : Tok} {size np : Nat} {dflt root : Array UInt8} {T : List Oct} {items : List Value} {ns : List Int}
set_option maxHeartbeats 4000000 in
theorem seg_nopast (B : Below callerA g [] g) (X : (hd0.heap_1 w.params).In g) (TT : Top p loose mean mg mb g) (F : Fr g L h m) (hsc : g.IsList sc items.toArray) (hints : IntsAre items ns) (hns : ns.length ≤ 63)
    (N : News g L h [(x, instObj 140 dx), (dx, dictOf (treeEs w t1 t2 t3 t4 t5 t6 (.int size u1) (.int (8 * size : Int) u2) (.bytes dflt u3) (.ref fa) (.ref da) (.bytes root u6)) 6), (pa, listOf ([] : List Value).toArray np), (fa, ofa), (ca, oca), (c5, ocl), (ta, ot), (186, tabObj ps)])
    (hA : ApL [x, dx, pa, fa, ca, c5, ta, 186]) (H : LawH ofa oca ocl ca c5 ta) (hot : IsTbl prog w ot T) (hsz : T.length ≤ 5000) (lo : (ta == sysModules) = false)
    (hs1 : 1 ≤ size) (hs2 : size ≤ 2) (hm1 : m "_law_hash" = some (.ref fa)) (hm2 : m "tree" = some (.ref x)) (hm3 : m "script" = some (.ref sc)) (hm4 : m "past" = some (.ref pa))
    (hQ : ∀ h' tk', (∀ b o, g.get? b = some o → h'.get? b = some o) → GrownAt 186 h' → Q (.ret (.bool true)) { s with heap := h', toks := tk' }) :
    wpAny (model prog w) (callerA.deeper (lawEnv L fn)) (execs (lawBody.drop 20) (lawEnv L fn)) Q (fun e s' => wpAny (model prog w) (callerA.deeper (lawEnv L fn)) (leaving (lawEnv L fn) e) (fun _ s'' => E1 e s'') (fun e' s'' => E1 e' s'') s') { s with heap := h, toks := tk } := by
  conv in (execs (List.drop 20 lawBody) _) => arg 1; whnf
  let od9 : Obj := dictOf (treeEs w t1 t2 t3 t4 t5 t6 (.int size u1) (.int (8 * size : Int) u2) (.bytes dflt u3) (.ref fa) (.ref da) (.bytes root u6)) 6
  have N : News g L h [(x, instObj 140 dx), (dx, od9), (pa, listOf ([] : List Value).toArray np), (fa, ofa), (ca, oca), (c5, ocl), (ta, ot), (186, tabObj ps)] := N
  obtain ⟨a1, a2, a3, a4, a5, a6, a7, _⟩ := hA
  k_steps
  unfold Stop
  with_reducible rename Fr _ _ _ _ => F9
  with_reducible rename News _ _ _ _ => N9
  exact seg_big B X TT F9 hsc hints hns (newsSub (l := [(x, _), (dx, _), (fa, _), (ca, _), (c5, _), (ta, ot), (186, _)]) N9 (by k_extra "z sub")) (by k_extra "z apl") H hot hsz lo hs1 hs2 hm1 hm2 hm3 hQ
end
end -- S27
section -- S28a
section
variable {prog : Program} {w : World} {A : Around} {E : Value → Shared → Prop} {s : Shared} {env : Env} {h₀ : Heap} {x : Str} {body : List Stmt} {Q : Flow → Shared → Prop} {news : List (Addr × Obj)} {m₀ : Str → Option Value}
/-- a loop over a list of the ledger -/
theorem iter_lst {l : Addr} {vs : List Value} {n : Nat} (J : Nat → (Str → Option Value) → List (Addr × Obj) → Prop) (hh : A.handled = none)
    (F : Fr h₀ env.locals s.heap m₀) (N : News h₀ env.locals s.heap news) (hl : (l, listOf vs.toArray n) ∈ news) (hj : J 0 m₀ news) (hJl : ∀ i m nx, J i m nx → (l, listOf vs.toArray n) ∈ nx)
    (turn : ∀ (i : Nat) v m₁ news₁ h tk I oI, i < vs.length → vs[i]? = some v → J i m₁ news₁ → AllNe I news₁ → Fr h₀ env.locals h (fun y => if y = x then some v else m₁ y) → News h₀ env.locals h ((I, oI) :: news₁) →
      wpAny (model prog w) A (execs body env) (TurnEnd h₀ env.locals I oI (J (i + 1)) { s with heap := h, toks := tk } Q) E { s with heap := h, toks := tk })
    (done : ∀ m₁ news₁ h tk, J vs.length m₁ news₁ → Fr h₀ env.locals h m₁ → News h₀ env.locals h news₁ → Q .next { s with heap := h, toks := tk }) :
    wpAny (model prog w) A (pyIter (.ref l)) (fun it s₂ => LoopAtV prog w A h₀ env x body Q E it s₂) E s := by
  have hx := N _ hl
  have hL : s.heap.IsList l vs.toArray := ⟨_, hx.1, rfl, n, rfl⟩
  refine wpAny_pyIter_list hL ?_
  have hlt : l < s.heap.objs.size := Heap.lt_size hx.1
  have hne : l ≠ s.heap.objs.size := Nat.ne_of_lt hlt
  have W := Walks.list (prog := prog) (w := w) (A := A) hh s.heap.objs.size l hne vs.toArray
  have hlen : vs.toArray.size = vs.length := by simp
  rw [hlen] at W
  have kp : ∀ b o, s.heap.get? b = some o → (s.heap.push { cls := .type "list_iterator", data := .fields #[.ref l, .int 0 0] }).get? b = some o := fun b o e => Heap.get?_push_of_some _ e
  refine loop_one (I := s.heap.objs.size) J W (by simp) ?_ (next_is_new F) (fun b hb => ?_) ⟨⟨_, Heap.get?_push_size _ rfl, rfl, rfl⟩, hL.extBut (fun b o _ e => kp b o e) hne⟩ (fun i h hI => let ⟨o, ho, _⟩ := hI.1; ⟨o, ho⟩) (F.push _)
    (fun p hp => ⟨kp _ _ (N p hp).1, (N p hp).2⟩) (fun p hp e => absurd (Heap.lt_size (N p hp).1) (by rw [e]; exact Nat.lt_irrefl _)) hj ?_ done
  · intro hm
    have Llt := F.ns.lt
    rcases List.mem_cons.mp hm with e | hm
    · exact absurd Llt (by rw [e]; exact Nat.lt_irrefl _)
    · exact hx.2.1 (List.mem_singleton.mp hm).symm
  · rcases List.mem_cons.mp hb with e | hm
    · exact .inl e
    · exact .inr (.inr ⟨listOf vs.toArray n, fun i m nx hJ => by rw [List.mem_singleton.mp hm]; exact hJl i m nx hJ⟩)
  · intro i v m₁ news₁ h tk oI hi hP hJ hne' F' N'
    exact turn i v m₁ news₁ h tk _ oI hi (by simpa using hP) hJ hne' F' N'
def TurnEndU (h₀ : Heap) (L I : Addr) (oI : Obj) (J : (Str → Option Value) → List (Addr × Obj) → Prop) (s : Shared) (f : Flow) (s₂ : Shared) : Prop := f = .next ∧ TurnNext h₀ L I oI J s s₂
/-- the same with a tuple of names -/
theorem iter_lstT {l : Addr} {vs : List Value} {n : Nat} {elts : List Expr} {x1 : Nat} {tpos : Pos} (J : Nat → (Str → Option Value) → List (Addr × Obj) → Prop) (hh : A.handled = none)
    (F : Fr h₀ env.locals s.heap m₀) (N : News h₀ env.locals s.heap news) (hl : (l, listOf vs.toArray n) ∈ news) (hj : J 0 m₀ news) (hJl : ∀ i m nx, J i m nx → (l, listOf vs.toArray n) ∈ nx)
    (turn : ∀ (i : Nat) v m₁ news₁ (s₁ : Shared) I oI, i < vs.length → vs[i]? = some v → J i m₁ news₁ → AllNe I news₁ → Fr h₀ env.locals s₁.heap m₁ → News h₀ env.locals s₁.heap ((I, oI) :: news₁) →
      wpAny (model prog w) A (assign (.Tuple elts x1 tpos) env v) (fun _ s₃ => wpAny (model prog w) A (execs body env) (TurnEndU h₀ env.locals I oI (J (i + 1)) s₁) E s₃) E s₁)
    (done : ∀ m₁ news₁ h tk, J vs.length m₁ news₁ → Fr h₀ env.locals h m₁ → News h₀ env.locals h news₁ → Q .next { s with heap := h, toks := tk }) :
    wpAny (model prog w) A (pyIter (.ref l)) (fun it s₂ => LoopAtT prog w A h₀ env (.Tuple elts x1 tpos) body Q E it s₂) E s := by
  have hx := N _ hl
  have hL : s.heap.IsList l vs.toArray := ⟨_, hx.1, rfl, n, rfl⟩
  refine wpAny_pyIter_list hL ?_
  have hlt : l < s.heap.objs.size := Heap.lt_size hx.1
  have hne : l ≠ s.heap.objs.size := Nat.ne_of_lt hlt
  have W := Walks.list (prog := prog) (w := w) (A := A) hh s.heap.objs.size l hne vs.toArray
  have hlen : vs.toArray.size = vs.length := by simp
  rw [hlen] at W
  have kp : ∀ b o, s.heap.get? b = some o → (s.heap.push { cls := .type "list_iterator", data := .fields #[.ref l, .int 0 0] }).get? b = some o := fun b o e => Heap.get?_push_of_some _ e
  have offI : ∀ p ∈ news, p.1 ≠ s.heap.objs.size := fun p hp e => absurd (Heap.lt_size (N p hp).1) (by rw [e]; exact Nat.lt_irrefl _)
  refine ⟨s.heap.objs.size, _, [s.heap.objs.size], vs.length, _, _, m₀, news, J, rfl, W, ?_, ?_, ?_, ⟨⟨_, Heap.get?_push_size _ rfl, rfl, rfl⟩, hL.extBut (fun b o _ e => kp b o e) hne⟩, F.push _,
    (fun p hp => ⟨kp _ _ (N p hp).1, (N p hp).2⟩), ?_, hj, ?_, ?_⟩
  · intro hm
    have Llt := F.ns.lt
    rcases List.mem_cons.mp hm with e | hm
    · exact absurd Llt (by rw [e]; exact Nat.lt_irrefl _)
    · exact hx.2.1 (List.mem_singleton.mp hm).symm
  · intro b hb; rw [List.mem_singleton.mp hb]; exact next_is_new F
  · intro p hp hm; exact offI p hp (List.mem_singleton.mp hm)
  · intro i s' v Q' st hq
    cases v with
    | ref T => exact wpAny_letOwnedTupleGo_listiter st.1 hq
    | _ => exact wpAny_pure hq
  · intro i v m₁ news₁ s₁ own hi hP hJ hoff hown hget hall hst F₁ N₁
    obtain ⟨⟨oI, hoI, hI1, hI2⟩, _⟩ := id hst
    have hmem := hall s.heap.objs.size (by simp) (next_is_new F) oI hoI
    have N₂ : News h₀ env.locals s₁.heap ((s.heap.objs.size, oI) :: news₁) := fun p hp => by
      rcases List.mem_cons.mp hp with rfl | hp
      · exact N₁ _ (List.mem_append_left _ hmem)
      · exact N₁ _ (List.mem_append_right _ hp)
    have hne' : ∀ p ∈ news₁, p.1 ≠ s.heap.objs.size := fun p hp hq => hoff p hp (List.mem_singleton.mpr hq)
    refine wpAny_mono (turn i v m₁ news₁ s₁ _ oI hi (by simpa using hP) hJ (allNe_of hne') F₁ N₂) (fun _ s₃ h₃ => wpAny_mono h₃ (fun f s₄ hh => ?_) fun _ _ e => e) fun _ _ e => e
    obtain ⟨rfl, h', tk, m', news', e, F', N', hn', hJ'⟩ := hh
    refine ⟨rfl, h', tk, m', news', e, F', fun p hp => ?_, fun p hp hq => hn'.all p hp (List.mem_singleton.mp hq), hJ'⟩
    rcases List.mem_append.mp hp with hp | hp
    · have hg := hget p hp
      rcases List.mem_cons.mp (hown p hp) with e | e
      · rw [e] at hg
        have : p = (s.heap.objs.size, oI) := Prod.ext e (Option.some.inj (hg.symm.trans hoI))
        rw [this]; exact N' _ (.head _)
      · have e1 := List.mem_singleton.mp e
        have h1 := (N₂ _ (.tail _ (hJl _ _ _ hJ))).1
        rw [e1, h1] at hg
        have : p = (l, listOf vs.toArray n) := Prod.ext e1 (Option.some.inj hg).symm
        rw [this]; exact N' _ (.tail _ (hJl _ _ _ hJ'))
    · exact N' _ (.tail _ hp)
  · intro h' tk m' news' F' N' _ hJ
    exact done m' news' h' tk hJ F' N'
end
end -- S28a
section -- S28b
theorem memOf {α : Type} {a : α} {l : List α} (h : a ∈ l) : List.Mem a l := h
theorem Off.at1 {tl : List (Addr × Obj)} {l : List Nat} {q : Addr} {a : Nat} {o : Obj} (h : Off tl l) (hq : (q, o) ∈ tl) (m : a ∈ l) : @Ne Nat q a := h _ hq a m
theorem Off.at2 {tl : List (Addr × Obj)} {l : List Nat} {q : Addr} {a : Nat} {o : Obj} (h : Off tl l) (hq : (q, o) ∈ tl) (m : a ∈ l) : @Ne Nat a q := fun e => h _ hq a m e.symm
theorem Off.mono {tl : List (Addr × Obj)} {l l' : List Nat} (h : Off tl l) (k : ∀ a, a ∈ l' → a ∈ l) : Off tl l' := fun p hp a ha => h p hp a (k a ha)
abbrev tup3 (r : Array UInt8) (t1 : Tok) (n : Array UInt8) (t2 : Tok) (v : Array UInt8) (t3 : Tok) (k : Nat) : Obj := { cls := .type "tuple", data := .seq #[.bytes r t1, .bytes n t2, .bytes v t3] k }
/-- an item of the past -/
def PastIt (T : List Oct) (D : List (Oct × Oct)) (size : Nat) (tl : List (Addr × Obj)) (v : Value) : Prop :=
  ∃ q r n u t1 t2 t3 k f key, v = .ref q ∧ (q, tup3 r t1 n t2 u t3 k) ∈ tl ∧ In T D (8 * size) f r.toList ∧ n.size = size ∧ value (oInts n.toList) = ((key : Nat) : Int) ∧ key < 2 ^ (8 * size) ∧ u.toList = f key
theorem PastIt.ext {T T' : List Oct} {D D' : List (Oct × Oct)} {n size : Nat} {tl tl' : List (Addr × Obj)} {v : Value} (h : PastIt T D size tl v) (e : Ext n T T') (o : Over D D') (s : ∀ p ∈ tl, p ∈ tl') : PastIt T' D' size tl' v := by
  obtain ⟨q, r, n, u, t1, t2, t3, k, f, key, h1, h2, h3, h4⟩ := h
  exact ⟨q, r, n, u, t1, t2, t3, k, f, key, h1, s _ h2, h3.over e o, h4⟩
/-- what the last deed left -/
def LastOk (prog : Program) (w : World) (T : List Oct) (D : List (Oct × Oct)) (size : Nat) (dflt : Oct) (ws : List Value) (tl : List (Addr × Obj)) (o4 : Obj) : Prop :=
  ws = [] ∨ ∃ ws' q r n u t1 t2 t3 k f key eo oe De, ws = ws' ++ [Value.ref q] ∧ (q, tup3 r t1 n t2 u t3 k) ∈ tl ∧ (eo, oe) ∈ tl ∧ @Ne Nat q eo ∧ o4.data = .cell (some (.ref eo)) ∧ (eo == sysModules) = false ∧ IsKB (intKind prog w) oe De ∧ De.length ≤ 10 ∧
    Rep De (upd f key dflt) dflt 0 (8 * size) ∧ In T D (8 * size) f r.toList ∧ n.size = size ∧ value (oInts n.toList) = ((key : Nat) : Int) ∧ key < 2 ^ (8 * size)
theorem LastOk.ext {prog : Program} {w : World} {T T' : List Oct} {D : List (Oct × Oct)} {n size : Nat} {dflt : Oct} {ws : List Value} {tl tl' : List (Addr × Obj)} {o4 : Obj} (h : LastOk prog w T D size dflt ws tl o4) (e : Ext n T T') (s : ∀ p ∈ tl, p ∈ tl') : LastOk prog w T' D size dflt ws tl' o4 := by
  rcases h with h | ⟨ws', q, r, n, u, t1, t2, t3, k, f, key, eo, oe, De, h1, h2, h3, h4, h5, h6, h7, h8, h9, h10, h11⟩
  · exact .inl h
  · exact .inr ⟨ws', q, r, n, u, t1, t2, t3, k, f, key, eo, oe, De, h1, s _ h2, s _ h3, h4, h5, h6, h7, h8, h9, h10.over e (Over.refl D), h11⟩
theorem mnil {l : List Nat} : ∀ a : Nat, a ∈ ([] : List Nat) → a ∈ l := fun a h => by cases h
theorem mcons {b : Nat} {r l : List Nat} (h : b ∈ l) (k : ∀ a : Nat, a ∈ r → a ∈ l) : ∀ a : Nat, a ∈ b :: r → a ∈ l := fun a ha => by
  rcases List.mem_cons.mp ha with rfl | ha
  · exact h
  · exact k a ha
-- MSub
end -- S28b
section -- S28
theorem lines_s28_1 : True := by
  w_top off
  k_with_none
  (k_with "execs cons" => (((with_reducible show wpAny _ _ (execs (Stmt.Assign _ _ _ :: _) _) _ _ _); refine execsGen fun P8 hP8 => ?_)))
  (k_with "execs cons" => (((with_reducible show wpAny _ _ (execs (Stmt.Expr _ _ :: _) _) _ _ _); refine execsGen fun P8 hP8 => ?_)))
  (k_with "execs cons" => (((with_reducible show wpAny _ _ (execs (Stmt.AugAssign _ _ _ _ :: _) _) _ _ _); refine execsGen fun P8 hP8 => ?_)))
  (k_with "FinQ" => ((refine finOut (by with_reducible assumption) ?_; (try dsimp only))))
  (k_with "exec Try" => (((with_reducible show wpAny _ _ (exec (Stmt.Try _ (_ :: _) _ [] _) _) _ _ _); refine wpAny_Try_except ?_)))
  (k_with "eval Name" => ((k_here; k_dflt (refine' nameX_L ?q10F ?q10v ?_ ?q10a ?q10b; (case q10a => rfl); (case q10b => rfl); (case q10F => k_asm); (case q10v => assumption); k_whole))))
  (k_with "k_ne" => (first | (refine PySem.W.neN ?_; (try dsimp only); first | exact Apx.l (by with_reducible assumption) (by k_mem) | exact Apx.r (by with_reducible assumption) (by k_mem) | exact AllNe.at1 (by with_reducible assumption) (by k_mem) | exact AllNe.at2 (by with_reducible assumption) (by k_mem) | omega)))
  (k_with "nm_c0" => ((intro hC F' N'; (try dsimp only at N'); (try k_sweep))))
  (k_with "noteFrame ref" => ((k_here; (first
  | (k_dflt (refine' catch0 (mean := _) ?q44A ?q44R ?q44F ?q44U ?q44X ?q44T ?q44c ?q44e ?_ ?q44hE ?q44hk ?q44hx ?q44hd; (case q44R => assumption); (case q44A => exact rfl); (case q44F => assumption); (case q44U => assumption); (case q44X => assumption); (case q44T => assumption)))
  | (k_dflt (refine' catch0 (mean := _) ?q44A ?q44R ?q44F ?q44U ?q44X ?q44T ?q44c ?q44e ?_ ?q44hE ?q44hk ?q44hx ?q44hd; (case q44R => exact RaisedS.toSN (by assumption)); (case q44A => exact rfl); (case q44F => assumption); (case q44U => assumption); (case q44X => assumption); (case q44T => assumption)))); (case q44c => kts_nm); (case q44e => kts_exm); (case q44hk => exact rfl); (case q44hx => exact rfl); (case q44hd => decide); (case q44hE => with_unfolding_all passes_own); k_extra "nm_c0")))
  (k_with "InitBack" => ((dsimp only [InitBack])))
  (k_with "loadName" => ((k_here; k_dflt (refine' loadX ?q45F ?q45v ?_ ?q45a ?q45b; (case q45a => rfl); (case q45b => rfl); (case q45F => k_asm); (case q45v => first | assumption | exact rfl); k_whole))))
  (k_with "z apx" => (first | exact Apx.nil _ | (refine' Apx.cons ?q50za ?q50zb; (case q50za => k_ne); (case q50zb => k_extra "z apx"))))
  (k_with "z apl" => (first | exact True.intro | (refine' And.intro ?q51za ?q51zb; (case q51za => k_extra "z apx"); (case q51zb => k_extra "z apl"))))
  (k_with "z notin" => (first | exact notin_nil | (refine' notin_cons ?q52za ?q52zb; (case q52za => k_ne); (case q52zb => k_extra "z notin"))))
  (k_with "z sub" => (first | exact Sub.nil _ | (refine' Sub.cons ?q53za ?q53zb; (case q53za => k_mem); (case q53zb => k_extra "z sub"))))
  (k_with "z hash" => ((refine' LawH.at ?q54zh ?q54zn ?q54z1 ?q54z2 ?q54z3 ?q54z4 ?q54z5 ?q54z6; (case q54zh => assumption); (case q54zn => k_asm); (case q54z1 => k_mem); (case q54z2 => k_mem); (case q54z3 => k_mem); (case q54z4 => k_extra "z notin"); (case q54z5 => k_extra "z notin"); (case q54z6 => k_extra "z notin"))))
  (k_with "z hashnew" => ((intro h1 x dx F1 N1 nx nd; refine' hashNew ?q55zh ?q55z1 ?q55z2 ?q55z3 ?q55z4 ?q55z5 ?q55z6 N1 nx nd; (case q55zh => assumption); (case q55z1 => k_mem); (case q55z2 => k_mem); (case q55z3 => k_mem); (case q55z4 => k_ne); (case q55z5 => k_ne); (case q55z6 => k_ne))))
  (k_with "z binds" => ((intro x9 s9 fd9 o9 X9 ho9 hd9; (refine' lookup_inj ho9 ?q20h29 ?_; (case q20h29 => k_is); intro h39); subst h39; cases hd9; first | exact BindsTo.of_eq rfl | exact binds_K X9 rfl (by k_is) rfl rfl rfl)))
  (k_with "z nm new" => ((intro xN dN aN rootN t1N t2N t3N t4N t5N t6N u2N u6N oN odN TN DN h' tk' F' N' nxN ndN naN neN exN htN hdN okN lenN inN; (try dsimp only at N' nxN ndN naN); (have hlN := Ext.len exN))))
  (k_with "call ref" => ((k_here; (with_reducible show wpAny _ _ (call (Value.ref 140) _ _) _ _ _); k_dflt (refine' call_new (size := 32) ?q56B ?q56F ?q56X ?q56T ?q56N ?q56c1 ?q56c2 ?q56c3 ?q56c4 ?q56hb ?q56H ?q56ot ?q56U ?q56z ?q56r ?q56lo ?q56s1 ?q56s2 ?_; (case q56F => k_asm); (case q56N => k_asm); (case q56B => k_asm); (case q56X => k_asm); (case q56T => k_asm); (case q56c1 => exact rfl); (case q56c2 => exact rfl); (case q56c3 => exact rfl); (case q56c4 => exact rfl); (case q56hb => k_extra "z binds"); (case q56H => k_extra "z hashnew"); (case q56ot => assumption); (case q56U => k_updF); (case q56z => omega); (case q56r => k_room); (case q56lo => assumption); (case q56s1 => omega); (case q56s2 => omega)); k_extra "z nm new"; (try k_sweep))))
  (k_with "z nm blanks" => ((intro lK vsK nK h' tk' oK TK F' N' nlK exK htK blK; (try dsimp only at N' nlK); (have hlK := Ext.len exK))))
  (k_with "call ref" => ((k_here; (with_reducible show wpAny _ _ (call (Value.ref 165) _ _) _ _ _); k_dflt (refine' call_blanks (d := 256) ?q57B ?q57F ?q57X ?q57T ?q57N ?q57c1 ?q57c2 ?q57c3 ?q57c4 ?q57H ?q57ot ?q57U ?q57z ?q57r ?q57dd ?q57lo ?_; (case q57F => k_asm); (case q57N => k_asm); (case q57B => k_asm); (case q57X => k_asm); (case q57T => k_asm); (case q57c1 => exact rfl); (case q57c2 => exact rfl); (case q57c3 => exact rfl); (case q57c4 => exact rfl); (case q57H => k_extra "z hash"); (case q57ot => assumption); (case q57U => k_updF); (case q57z => omega); (case q57r => k_room); (case q57dd => omega); (case q57lo => assumption)); k_extra "z nm blanks"; (try k_sweep))))
  (k_with "z nm blk" => (intro bK uK hbK))
  (k_with "subscriptTail" => ((k_here; (with_reducible show wpAny _ _ (subscriptTail _ _ (Value.ref _) (Value.int _ _)) _ _ _); k_dflt (refine' item_blk (d := 256) ?q58N ?q58m ?q58b ?q58d ?q58n ?_; (case q58N => k_asm); (case q58m => k_mem); (case q58b => assumption); (case q58d => omega); (case q58n => omega)); k_extra "z nm blk")))
  (k_with "compareOp NotEq bytes bytes" => ((k_here; refine stop ?_)))
  (k_with "z nm sc" => (intro hsc9 tkSc))
  (k_with "truthy ref" => ((k_here; k_dflt (refine' script_true ?q59F ?q59l ?q59i ?q59n ?_ ?_; (case q59F => k_asm); (case q59l => assumption); (case q59i => assumption); (case q59n => assumption)); (all_goals k_extra "z nm sc"))))
  (k_with "z nm it" => (intro nIt uIt))
  (k_with "subscriptTail" => ((k_here; (with_reducible show wpAny _ _ (subscriptTail _ _ (Value.ref _) (Value.int 0 _)) _ _ _); k_dflt (refine' script_item ?q60F ?q60l ?q60i ?q60n ?_; (case q60F => k_asm); (case q60l => assumption); (case q60i => assumption); (case q60n => assumption)); k_extra "z nm it")))
  (k_with "z upd3" => (first | exact Upd3.nil | (refine' Upd3.one ?q61a; (case q61a => k_extra "z upd3")) | (refine' Upd3.two ?q61a; (case q61a => k_extra "z upd3")) | (refine' Upd3.three ?q61a; (case q61a => k_extra "z upd3")) | (refine' Upd3.skip ?q61n ?q61a; (case q61n => (refine ⟨?_, ?_, ?_⟩ <;> k_ne)); (case q61a => k_extra "z upd3"))))
  (k_with "z upd2" => (first | exact Upd2.nil | (refine' Upd2.one ?q62a; (case q62a => k_extra "z upd2")) | (refine' Upd2.two ?q62a; (case q62a => k_extra "z upd2")) | (refine' Upd2.skip ?q62n ?q62a; (case q62n => (refine ⟨?_, ?_⟩ <;> k_ne)); (case q62a => k_extra "z upd2")) | (refine' Upd2.rest ?q62a; (case q62a => assumption))))
  (k_with "truthy ref" => ((k_here; (first
  | (k_dflt (refine' list_false ?q63N ?q63m ?_; (case q63N => k_asm); (case q63m => k_mem)))
  | (k_dflt (refine' list_true ?q63N ?q63m ?q63n ?q63z ?_; (case q63N => k_asm); (case q63m => k_mem); (case q63n => simp); (case q63z => simp; omega)))); (intro tk9))))
  (k_with "subscriptTail" => ((k_here; (with_reducible show wpAny _ _ (subscriptTail _ _ (Value.ref _) (Value.int (-1) _)) _ _ _); k_dflt (refine' listItems_neg ?q30N ?q30m ?q30z ?_; (case q30N => k_asm); (case q30m => k_mem); (case q30z => assumption)))))
  (k_with "z nm db" => ((intro xR dR t1R t2R t3R t4R t5R t6R u2R h' tk' oR TR F' N' nxR ndR neR exR htR; (try dsimp only at N' nxR ndR); (have hlR := Ext.len exR))))
  (k_with "call ref" => ((k_here; (with_reducible show wpAny _ _ (call (Value.ref _) [Value.ref _, Value.bytes _ _, Value.ref _, Value.int _ _, Value.bytes _ _] _) _ _ _); k_dflt (refine' call_fromdb ?q64B ?q64F ?q64X ?q64T ?q64N ?q64c1 ?q64c2 ?q64c3 ?q64c4 ?q64qm ?q64m1 ?q64ne ?q64H ?q64ot ?q64U ?q64z ?q64r ?q64lo ?q64s1 ?q64s2 ?q64rl ?_; (case q64F => k_asm); (case q64N => k_asm); (case q64B => k_asm); (case q64X => k_asm); (case q64T => k_asm); (case q64c1 => exact rfl); (case q64c2 => exact rfl); (case q64c3 => exact rfl); (case q64c4 => exact rfl); (case q64qm => k_mem); (case q64m1 => k_mem); (case q64H => k_extra "z hash"); (case q64ot => assumption); (case q64ne => k_ne); (case q64U => k_updF); (case q64z => omega); (case q64r => k_room); (case q64lo => assumption); (case q64s1 => omega); (case q64s2 => omega); (case q64rl => assumption)); k_extra "z nm db"; (try k_sweep))))
  (k_with "call ref" => ((k_here; (with_reducible show wpAny _ _ (call (Value.ref 109) _ _) _ _ _); refine stop ?_)))
  (k_with "call ref" => ((k_here; (with_reducible show wpAny _ _ (call (Value.ref 170) _ _) _ _ _); refine stop ?_)))
  (k_with "compareOp NotEq bytes bytes" => ((k_here; refine stop ?_)))
  (k_with "execs cons" => (((with_reducible show wpAny _ _ (execs (Stmt.If _ _ _ ⟨217, _, _, _⟩ :: _) _) _ _ _); refine stop ?_)))
  (k_with "k_mem" => (((repeat (first | exact List.Mem.head _ | exact memOf (by with_reducible assumption) | refine' List.Mem.tail _ ?_)); done)))
  (k_with "k_ne" => (first | (refine PySem.W.neN ?_; (try dsimp only); first | exact Apx.l (by with_reducible assumption) (by k_mem) | exact Apx.r (by with_reducible assumption) (by k_mem) | exact AllNe.at1 (by with_reducible assumption) (by k_mem) | exact AllNe.at2 (by with_reducible assumption) (by k_mem) | exact Off.at1 (by with_reducible assumption) (by with_reducible assumption) (by k_mem) | exact Off.at2 (by with_reducible assumption) (by with_reducible assumption) (by k_mem) | with_reducible assumption | omega)))
  (k_with "k_all" => (first | exact List.forall_mem_nil _ | exact Off.all (by with_reducible assumption) (by k_mem) | (refine' List.forall_mem_cons.mpr ⟨?q65a, ?q65b⟩; (case q65a => k_ne); (case q65b => k_all))))
  (k_with "z sub" => (first | exact Sub.nil _ | (refine' Sub.cons ?q66za ?q66zb; (case q66za => k_mem); (case q66zb => k_extra "z sub")) | (repeat (first | exact Sub.refl _ | refine' Sub.skip ?_))))
  (k_with "exec For Tuple Name cons nil" => (refine stop ?_))
  (k_with "pyIter ref" => (refine stop ?_))
  (k_with "call ref" => ((k_here; (with_reducible show wpAny _ _ (call (Value.ref 184) _ _) _ _ _); refine stop ?_)))
  (k_with "execs cons" => (((with_reducible show wpAny _ _ (execs (Stmt.If _ _ _ ⟨211, _, _, _⟩ :: _) _) _ _ _); refine stop ?_)))
  (k_with "assign Tuple" => ((k_here; (with_reducible show wpAny _ _ (assign (Expr.Tuple _ _ _) _ (Value.ref _)) _ _ _); k_dflt (refine' unpackN_ ?q67F ?q67N ?q67T ?q67k1 ?q67k2 ?q67k3 ?_; (case q67F => with_reducible assumption); (case q67N => with_reducible assumption); (case q67T => exact News.isTup (by with_reducible assumption) (by k_mem)); (case q67k1 => exact rfl); (case q67k2 => exact rfl); (case q67k3 => exact rfl)); intro h' F' N'; (try k_sweep))))
  (k_with "z msub" => (first | exact mnil | (refine' mcons ?q68za ?q68zb; (case q68za => k_mem); (case q68zb => k_extra "z msub"))))
  trivial
section
variable {prog : Program} {w : World} {g : Heap} {L fn : Addr} {s : Shared} {h : Heap} {tk : Nat} {m : Str → Option Value} {Q : Flow → Shared → Prop} {E1 : Value → Shared → Prop} {fa x dx da ta ca c5 sc pa bl : Addr} {ofa oca ocl ot odb o1 o4 : Obj} {ps : Array Value}
  {p : Program} {loose : List Str} {mean : ExcName → Option Value} {mg mb : Str → Option Value} {t1 t2 t3 t4 t5 t6 u1 u2 u3 u6 us ud ut : Tok} {size np nv : Nat} {dflt root : Array UInt8} {T : List Oct} {D : List (Oct × Oct)} {items ws vs : List Value} {ns : List Int} {tl : List (Addr × Obj)}
set_option maxHeartbeats 4000000 in
theorem seg_past (B : Below callerA g [] g) (X : (hd0.heap_1 w.params).In g) (TT : Top p loose mean mg mb g) (F : Fr g L h m) (hsc : g.IsList sc items.toArray) (hints : IntsAre items ns) (hns : ns.length ≤ 63)
    (N : News g L h ((x, instObj 140 dx) :: (dx, dictOf (treeEs w t1 t2 t3 t4 t5 t6 (.int size u1) (.int (8 * size : Int) u2) (.bytes dflt u3) (.ref fa) (.ref da) (.bytes root u6)) 6) :: (da, odb) :: (pa, listOf ws.toArray np) :: (bl, listOf vs.toArray nv) :: (fa, ofa) :: (ca, oca) :: (c5, ocl) :: (ta, ot) :: (L + 1 + 1 + 1 + 1, o4) :: (L + 1, o1) :: (186, tabObj ps) :: tl))
    (hA : ApL [x, dx, da, pa, bl, fa, ca, c5, ta, L + 1 + 1 + 1 + 1, L + 1, 186]) (hOff : Off tl [x, dx, da, pa, bl, fa, ca, c5, ta, L + 1 + 1 + 1 + 1, L + 1, 186]) (H : LawH ofa oca ocl ca c5 ta) (hot : IsTbl prog w ot T) (hsz : T.length ≤ 1500) (lo : (ta == sysModules) = false)
    (hdb : IsKB (bytesKind prog w) odb D) (hszD : D.length ≤ 2000) (ok : DbOk T D) (hpast : ∀ v ∈ ws, PastIt T D size tl v) (hlast : LastOk prog w T D size dflt.toList ws tl o4) (hblk : Blk T dflt.toList (8 * size + 1) vs)
    (hd1 : o1.data = .cell (some (.int ((8 * size : Nat) : Int) ut))) (hwl : ws.length ≤ 10)
    (hs1 : 1 ≤ size) (hs2 : size ≤ 2) (hm1 : m "_law_hash" = some (.ref fa)) (hm2 : m "tree" = some (.ref x)) (hm3 : m "script" = some (.ref sc)) (hm4 : m "past" = some (.ref pa)) (hm5 : m "size" = some (.int (size : Int) us)) (hm6 : m "default" = some (.bytes dflt ud)) (hm7 : m "blanks" = some (.ref bl))
    (hQ : ∀ h' tk', (∀ b o, g.get? b = some o → h'.get? b = some o) → GrownAt 186 h' → Q (.ret (.bool true)) { s with heap := h', toks := tk' }) :
    wpAny (model prog w) (callerA.deeper (lawEnv L fn)) (execs (lawBody.drop 19) (lawEnv L fn)) Q (fun e s' => wpAny (model prog w) (callerA.deeper (lawEnv L fn)) (leaving (lawEnv L fn) e) (fun _ s'' => E1 e s'') (fun e' s'' => E1 e' s'') s') { s with heap := h, toks := tk } := by
  conv in (execs (List.drop 19 lawBody) _) => arg 1; whnf
  let od9 : Obj := dictOf (treeEs w t1 t2 t3 t4 t5 t6 (.int size u1) (.int (8 * size : Int) u2) (.bytes dflt u3) (.ref fa) (.ref da) (.bytes root u6)) 6
  have N : News g L h ((x, instObj 140 dx) :: (dx, od9) :: (da, odb) :: (pa, listOf ws.toArray np) :: (bl, listOf vs.toArray nv) :: (fa, ofa) :: (ca, oca) :: (c5, ocl) :: (ta, ot) :: (L + 1 + 1 + 1 + 1, o4) :: (L + 1, o1) :: (186, tabObj ps) :: tl) := N
  obtain ⟨a1, a2, a3, a4, a5, a6, a7, a8, a9, a10, a11, _⟩ := hA
  k_steps
  unfold Stop
  refine For_invT g ?_ (by intro _; rfl)
  k_steps
  unfold Stop
  refine iter_lstT (fun i m nx => ∃ ot' T' k, nx = (x, instObj 140 dx) :: (dx, od9) :: (da, odb) :: (pa, listOf ws.toArray np) :: (bl, listOf vs.toArray nv) :: (fa, ofa) :: (ca, oca) :: (c5, ocl) :: (ta, ot') :: (L + 1 + 1 + 1 + 1, o4) :: (L + 1, o1) :: (186, tabObj ps) :: tl ∧
    IsTbl prog w ot' T' ∧ Ext k T T' ∧ k ≤ i * 17 ∧ m "_law_hash" = some (.ref fa) ∧ m "tree" = some (.ref x) ∧ m "script" = some (.ref sc) ∧ m "past" = some (.ref pa) ∧ m "size" = some (.int (size : Int) us) ∧ m "default" = some (.bytes dflt ud) ∧ m "blanks" = some (.ref bl)) rfl F N (by k_mem) ⟨ot, T, 0, rfl, hot, Ext.refl T, by omega, hm1, hm2, hm3, hm4, hm5, hm6, hm7⟩ ?_ ?_ ?_
  · rintro i m nx ⟨ot', T', k, rfl, _⟩
    k_mem
  · intro i v m₁ news₁ s₁ I oI hi hv hJ hne9 F1 N1
    obtain ⟨ot', T', k, rfl, hot', ex', hk', hn1, hn2, hn3, hn4, hn5, hn6, hn7⟩ := hJ
    obtain ⟨q, r, n, u, q1, q2, q3, k9, f, key, rfl, hq, hin, hns9, hval, hkey, hu⟩ := hpast v (List.mem_of_getElem? hv)
    have hl' := ex'.len
    have hin' := hin.over ex' (Over.refl D)
    have hrl := hin.tr.len
    k_steps
    unfold Stop
    with_reducible rename Fr _ _ _ _ => F2
    with_reducible rename News _ _ _ _ => N2
    have hinR := hin'.over exR (Over.refl D)
    refine' call_lawget0 (due := u) (pp := key) B F2 X TT X TT N2 rfl rfl rfl rfl ?m1 ?m2 ?m3 ?ne ?r hs1 hs2 hns9 hval hkey hdb hinR hu ?_
    case m1 => k_mem
    case m2 => k_mem
    case m3 => k_mem
    case ne => (refine ⟨?_, ?_, ?_⟩ <;> k_ne)
    case r => k_room
    intro h3 tk3 F3 N3
    clear F2 N2
    k_steps
    with_reducible rename Fr _ _ _ _ => F9
    with_reducible rename News _ _ _ _ => N9
    exact (show TurnEndU _ _ _ _ _ _ _ _ from ⟨rfl, _, _, _, (x, _) :: (dx, _) :: (da, odb) :: (pa, _) :: (bl, _) :: (fa, ofa) :: (ca, oca) :: (c5, ocl) :: (ta, oR) :: (L + 1 + 1 + 1 + 1, o4) :: (L + 1, o1) :: (186, tabObj ps) :: tl, rfl, F9, newsSub N9 (by k_extra "z sub"), hne9, oR, TR, k + (8 * size + 1), rfl, htR, ex'.trans exR, by omega, hn1, hn2, hn3, hn4, hn5, hn6, hn7⟩)
  · intro m₁ news₁ h tk hJ F1 N1
    obtain ⟨ot', T', k, rfl, hot', ex', hk', hn1, hn2, hn3, hn4, hn5, hn6, hn7⟩ := hJ
    have hl' := ex'.len
    have hlast' := hlast.ext ex' (fun p hp => hp)
    k_steps
    unfold Stop
    with_reducible rename Fr _ _ _ _ => F9
    with_reducible rename News _ _ _ _ => N9
    have hb' := hblk.ext ex'
    rcases hlast' with hw | ⟨ws', q, r, n, u, q1, q2, q3, k9, f, key, eo, oe, De, hw, hq, he, hqe, hd4, loe, hKe, hDe, hRe, hin, hn9, hval, hkey⟩
    · subst hw
      exact seg_nopast B X TT F9 hsc hints hns (newsSub (l := [(x, _), (dx, _), (pa, _), (fa, _), (ca, _), (c5, _), (ta, ot'), (186, _)]) N9 (by k_extra "z sub")) (by k_extra "z apl") H hot' (by omega) lo hs1 hs2 hn1 hn2 hn3 hn4 hQ
    · subst hw
      have hwl' : ws'.length ≤ 10 := by simp at hwl; omega
      exact seg_late B X TT F9 hsc hints hns (newsSub (l := [(x, _), (dx, _), (da, odb), (pa, _), (q, _), (eo, oe), (bl, _), (fa, _), (ca, _), (c5, _), (ta, ot'), (L + 1 + 1 + 1 + 1, o4), (L + 1, o1), (186, _)]) N9 (by k_extra "z sub")) (by k_extra "z apl") H hot' (by omega) lo loe hdb hszD (ok.ext ex') hin hn9 hval hkey hKe hDe hRe hb' hd4 hd1 hwl' hs1 hs2 hn1 hn2 hn3 hn4 hn5 hn6 hn7 hQ
end
end -- S28
section -- S29a
theorem pow256 (n : Nat) : (2 : Nat) ^ (8 * n) = 256 ^ n := by rw [Nat.pow_mul]
section
variable {prog : Program} {w : World} {A : Around} {E : Value → Shared → Prop} {s : Shared} {g : Heap} {L d : Addr} {news : List (Addr × Obj)} {o : Obj}
theorem to_key {k size : Nat} {t u v : Tok} {Q : Value → Shared → Prop} (hs : size ≤ 64) (hk : k < 2 ^ (8 * size)) (h : ∀ key t' tk, key.size = size → value (oInts key.toList) = ((k : Nat) : Int) → Q (.bytes key t') { s with toks := tk }) :
    wpAny (model prog w) A (call (.builtin "int.to_bytes") [.int (k : Int) t, .int (size : Int) u, .str (PySem.Str.ofString "big") v]) Q E s := by
  have h1 : ((k : Nat) : Int) < 256 ^ size := by
    rw [pow256] at hk
    have : ((256 ^ size : Nat) : Int) = (256 : Int) ^ size := by simp
    rw [← this]; omega
  refine to_big' hs (by omega) h1 fun t' k' => h _ t' k' ?_ ?_
  · simp [be_length]
  · exact value_be (by omega) h1
theorem rep_get {D : List (Int × Oct)} {f : Nat → Oct} {k n : Nat} {kt vt : Tok} {v : Array UInt8} {Q : Value → Shared → Prop} (N : News g L s.heap news) (hp : (d, o) ∈ news) (hd : IsKB (intKind prog w) o D) (lo : (d == sysModules) = false) (hr : Rep D f v.toList 0 n) (hk : k < 2 ^ n)
    (h : ∀ b t tk, b.toList = f k → Q (.bytes b t) { s with toks := tk }) : wpAny (model prog w) A (call (.builtin "dict.get") [.ref d, .int (k : Int) kt, .bytes v vt]) Q E s :=
  kb_get N hp hd lo (hr.1 k (Nat.zero_le _) (by omega)) h
theorem eq_nil {b : Array UInt8} {t u : Tok} {x : Oct} {Q : Value → Shared → Prop} (hb : b.toList = x) (h : Q (.bool (decide (x = []))) s) : wpAny (model prog w) A (compareOp .Eq (.bytes b t) (.bytes #[] u)) Q E s := by
  refine eq_bytes ?_
  have : (b.toList == (#[] : Array UInt8).toList) = decide (x = []) := by rw [hb]; exact Bool.eq_iff_iff.mpr (by simp)
  rw [this]; exact h
theorem ne_nil {b : Array UInt8} {t u : Tok} {x : Oct} {Q : Value → Shared → Prop} (hb : b.toList = x) (h : Q (.bool (decide (x ≠ []))) s) : wpAny (model prog w) A (compareOp .NotEq (.bytes b t) (.bytes #[] u)) Q E s := by
  refine ne_bytes ?_
  have : (b.toList != (#[] : Array UInt8).toList) = decide (x ≠ []) := by
    rw [hb]; exact Bool.eq_iff_iff.mpr (by simp)
  rw [this]; exact h
theorem keys_at {h : Heap} {xs : FdX} {keys tl : List (Addr × Obj)} {as : List Addr} (N : News g L h news) (hkf : KeyFrom prog w [] keys xs) (h1 : ∀ p ∈ keys, p ∈ tl) (h2 : ∀ p ∈ tl, p ∈ news) (hoff : ∀ p ∈ tl, p.1 ∉ as) : KeysAt prog w (hideAll h as) xs :=
  KeysAt.from (keys_empty _) hkf fun p hp => hideAll_get _ (N p (h2 p (h1 p hp))).1 (hoff p (h1 p hp))
end
theorem Off.notin {tl : List (Addr × Obj)} {l : List Nat} {as : List Addr} (h : Off tl l) (s : ∀ a ∈ as, a ∈ l) : ∀ p ∈ tl, p.1 ∉ as := fun p hp hm => h p hp p.1 (s _ hm) rfl
theorem off2 {a b : Nat} {l : List Nat} (h1 : a ∈ l) (h2 : b ∈ l) : ∀ c ∈ ([a, b] : List Nat), c ∈ l := fun c hc => by
  rcases List.mem_cons.mp hc with rfl | hc
  · exact h1
  · rw [List.mem_singleton.mp hc]; exact h2
theorem pair_item {prog : Program} {w : World} {A : Around} {E : Value → Shared → Prop} {s : Shared} {g : Heap} {L r : Addr} {news : List (Addr × Obj)} {value slice : PySem.Expr} {t : Tok} {a b : Value} {n : Nat} {Q : Value → Shared → Prop} (i : Nat) (v : Value) (N : News g L s.heap news) (hm : (r, { cls := .type "tuple", data := .seq #[a, b] n }) ∈ news) (hi : i < 2) (hx : (#[a, b] : Array Value)[i]? = some v) (h : Q v s)
    (hs : subscripted slice false (.ref r) (.int (i : Int) t) = operate [.ref r, .int (i : Int) t] (getItem (.ref r) (.int (i : Int) t)) := by with_unfolding_all rfl) : wpAny (model prog w) A (subscriptTail value slice (.ref r) (.int (i : Int) t)) Q E s := by
  have hT : IsTup s.heap r #[a, b] := ⟨_, (N _ hm).1, rfl, n, rfl⟩
  have hseq : seqIndex? (i : Int) (#[a, b] : Array Value).size = some i := by
    have h1 : ¬ ((i : Int) < 0) := by omega
    have h2 : (0 : Int) ≤ (i : Int) := by omega
    have h3 : (i : Int) < (((#[a, b] : Array Value).size : Nat) : Int) := by show (i : Int) < ((2 : Nat) : Int); omega
    simp [seqIndex?, h1, h2, h3]
    omega
  exact tail_any hT.typeIs slot_tuple_getitem.lookup (getItem_tuple hT (by omega) (by omega) hseq hx h) hs
theorem pair1 {prog : Program} {w : World} {A : Around} {E : Value → Shared → Prop} {s : Shared} {g : Heap} {L r : Addr} {news : List (Addr × Obj)} {value slice : PySem.Expr} {t : Tok} {a b : Value} {n : Nat} {Q : Value → Shared → Prop} (N : News g L s.heap news) (hm : (r, { cls := .type "tuple", data := .seq #[a, b] n }) ∈ news) (h : Q b s)
    (hs : subscripted slice false (.ref r) (.int 1 t) = operate [.ref r, .int 1 t] (getItem (.ref r) (.int 1 t)) := by with_unfolding_all rfl) : wpAny (model prog w) A (subscriptTail value slice (.ref r) (.int 1 t)) Q E s := pair_item 1 b N hm (by decide) rfl h hs
theorem pair0 {prog : Program} {w : World} {A : Around} {E : Value → Shared → Prop} {s : Shared} {g : Heap} {L r : Addr} {news : List (Addr × Obj)} {value slice : PySem.Expr} {t : Tok} {a b : Value} {n : Nat} {Q : Value → Shared → Prop} (N : News g L s.heap news) (hm : (r, { cls := .type "tuple", data := .seq #[a, b] n }) ∈ news) (h : Q a s)
    (hs : subscripted slice false (.ref r) (.int 0 t) = operate [.ref r, .int 0 t] (getItem (.ref r) (.int 0 t)) := by with_unfolding_all rfl) : wpAny (model prog w) A (subscriptTail value slice (.ref r) (.int 0 t)) Q E s := pair_item 0 a N hm (by decide) rfl h hs
end -- S29a
section -- S29
theorem lines_s29_1 : True := by
  w_top off
  k_with_none
  (k_with "execs cons" => (((with_reducible show wpAny _ _ (execs (Stmt.Assign _ _ _ :: _) _) _ _ _); refine execsGen fun P8 hP8 => ?_)))
  (k_with "execs cons" => (((with_reducible show wpAny _ _ (execs (Stmt.Expr _ _ :: _) _) _ _ _); refine execsGen fun P8 hP8 => ?_)))
  (k_with "execs cons" => (((with_reducible show wpAny _ _ (execs (Stmt.AugAssign _ _ _ _ :: _) _) _ _ _); refine execsGen fun P8 hP8 => ?_)))
  (k_with "FinQ" => ((refine finOut (by with_reducible assumption) ?_; (try dsimp only))))
  (k_with "exec Try" => (((with_reducible show wpAny _ _ (exec (Stmt.Try _ (_ :: _) _ [] _) _) _ _ _); refine wpAny_Try_except ?_)))
  (k_with "eval Name" => ((k_here; k_dflt (refine' nameX_L ?q10F ?q10v ?_ ?q10a ?q10b; (case q10a => rfl); (case q10b => rfl); (case q10F => k_asm); (case q10v => assumption); k_whole))))
  (k_with "k_ne" => (first | (refine PySem.W.neN ?_; (try dsimp only); first | exact Apx.l (by with_reducible assumption) (by k_mem) | exact Apx.r (by with_reducible assumption) (by k_mem) | exact AllNe.at1 (by with_reducible assumption) (by k_mem) | exact AllNe.at2 (by with_reducible assumption) (by k_mem) | omega)))
  (k_with "nm_c0" => ((intro hC F' N'; (try dsimp only at N'); (try k_sweep))))
  (k_with "noteFrame ref" => ((k_here; (first
  | (k_dflt (refine' catch0 (mean := _) ?q44A ?q44R ?q44F ?q44U ?q44X ?q44T ?q44c ?q44e ?_ ?q44hE ?q44hk ?q44hx ?q44hd; (case q44R => assumption); (case q44A => exact rfl); (case q44F => assumption); (case q44U => assumption); (case q44X => assumption); (case q44T => assumption)))
  | (k_dflt (refine' catch0 (mean := _) ?q44A ?q44R ?q44F ?q44U ?q44X ?q44T ?q44c ?q44e ?_ ?q44hE ?q44hk ?q44hx ?q44hd; (case q44R => exact RaisedS.toSN (by assumption)); (case q44A => exact rfl); (case q44F => assumption); (case q44U => assumption); (case q44X => assumption); (case q44T => assumption)))); (case q44c => kts_nm); (case q44e => kts_exm); (case q44hk => exact rfl); (case q44hx => exact rfl); (case q44hd => decide); (case q44hE => with_unfolding_all passes_own); k_extra "nm_c0")))
  (k_with "InitBack" => ((dsimp only [InitBack])))
  (k_with "loadName" => ((k_here; k_dflt (refine' loadX ?q45F ?q45v ?_ ?q45a ?q45b; (case q45a => rfl); (case q45b => rfl); (case q45F => k_asm); (case q45v => first | assumption | exact rfl); k_whole))))
  (k_with "z apx" => (first | exact Apx.nil _ | (refine' Apx.cons ?q50za ?q50zb; (case q50za => k_ne); (case q50zb => k_extra "z apx"))))
  (k_with "z apl" => (first | exact True.intro | (refine' And.intro ?q51za ?q51zb; (case q51za => k_extra "z apx"); (case q51zb => k_extra "z apl"))))
  (k_with "z notin" => (first | exact notin_nil | (refine' notin_cons ?q52za ?q52zb; (case q52za => k_ne); (case q52zb => k_extra "z notin"))))
  (k_with "z sub" => (first | exact Sub.nil _ | (refine' Sub.cons ?q53za ?q53zb; (case q53za => k_mem); (case q53zb => k_extra "z sub"))))
  (k_with "z hash" => ((refine' LawH.at ?q54zh ?q54zn ?q54z1 ?q54z2 ?q54z3 ?q54z4 ?q54z5 ?q54z6; (case q54zh => assumption); (case q54zn => k_asm); (case q54z1 => k_mem); (case q54z2 => k_mem); (case q54z3 => k_mem); (case q54z4 => k_extra "z notin"); (case q54z5 => k_extra "z notin"); (case q54z6 => k_extra "z notin"))))
  (k_with "z hashnew" => ((intro h1 x dx F1 N1 nx nd; refine' hashNew ?q55zh ?q55z1 ?q55z2 ?q55z3 ?q55z4 ?q55z5 ?q55z6 N1 nx nd; (case q55zh => assumption); (case q55z1 => k_mem); (case q55z2 => k_mem); (case q55z3 => k_mem); (case q55z4 => k_ne); (case q55z5 => k_ne); (case q55z6 => k_ne))))
  (k_with "z binds" => ((intro x9 s9 fd9 o9 X9 ho9 hd9; (refine' lookup_inj ho9 ?q20h29 ?_; (case q20h29 => k_is); intro h39); subst h39; cases hd9; first | exact BindsTo.of_eq rfl | exact binds_K X9 rfl (by k_is) rfl rfl rfl)))
  (k_with "z nm new" => ((intro xN dN aN rootN t1N t2N t3N t4N t5N t6N u2N u6N oN odN TN DN h' tk' F' N' nxN ndN naN neN exN htN hdN okN lenN inN; (try dsimp only at N' nxN ndN naN); (have hlN := Ext.len exN))))
  (k_with "call ref" => ((k_here; (with_reducible show wpAny _ _ (call (Value.ref 140) _ _) _ _ _); k_dflt (refine' call_new (size := 32) ?q56B ?q56F ?q56X ?q56T ?q56N ?q56c1 ?q56c2 ?q56c3 ?q56c4 ?q56hb ?q56H ?q56ot ?q56U ?q56z ?q56r ?q56lo ?q56s1 ?q56s2 ?_; (case q56F => k_asm); (case q56N => k_asm); (case q56B => k_asm); (case q56X => k_asm); (case q56T => k_asm); (case q56c1 => exact rfl); (case q56c2 => exact rfl); (case q56c3 => exact rfl); (case q56c4 => exact rfl); (case q56hb => k_extra "z binds"); (case q56H => k_extra "z hashnew"); (case q56ot => assumption); (case q56U => k_updF); (case q56z => omega); (case q56r => k_room); (case q56lo => assumption); (case q56s1 => omega); (case q56s2 => omega)); k_extra "z nm new"; (try k_sweep))))
  (k_with "z nm blanks" => ((intro lK vsK nK h' tk' oK TK F' N' nlK exK htK blK; (try dsimp only at N' nlK); (have hlK := Ext.len exK))))
  (k_with "call ref" => ((k_here; (with_reducible show wpAny _ _ (call (Value.ref 165) _ _) _ _ _); k_dflt (refine' call_blanks (d := 256) ?q57B ?q57F ?q57X ?q57T ?q57N ?q57c1 ?q57c2 ?q57c3 ?q57c4 ?q57H ?q57ot ?q57U ?q57z ?q57r ?q57dd ?q57lo ?_; (case q57F => k_asm); (case q57N => k_asm); (case q57B => k_asm); (case q57X => k_asm); (case q57T => k_asm); (case q57c1 => exact rfl); (case q57c2 => exact rfl); (case q57c3 => exact rfl); (case q57c4 => exact rfl); (case q57H => k_extra "z hash"); (case q57ot => assumption); (case q57U => k_updF); (case q57z => omega); (case q57r => k_room); (case q57dd => omega); (case q57lo => assumption)); k_extra "z nm blanks"; (try k_sweep))))
  (k_with "z nm blk" => (intro bK uK hbK))
  (k_with "subscriptTail" => ((k_here; (with_reducible show wpAny _ _ (subscriptTail _ _ (Value.ref _) (Value.int _ _)) _ _ _); k_dflt (refine' item_blk (d := 256) ?q58N ?q58m ?q58b ?q58d ?q58n ?_; (case q58N => k_asm); (case q58m => k_mem); (case q58b => assumption); (case q58d => omega); (case q58n => omega)); k_extra "z nm blk")))
  (k_with "compareOp NotEq bytes bytes" => ((k_here; refine stop ?_)))
  (k_with "z nm sc" => (intro hsc9 tkSc))
  (k_with "truthy ref" => ((k_here; k_dflt (refine' script_true ?q59F ?q59l ?q59i ?q59n ?_ ?_; (case q59F => k_asm); (case q59l => assumption); (case q59i => assumption); (case q59n => assumption)); (all_goals k_extra "z nm sc"))))
  (k_with "z nm it" => (intro nIt uIt))
  (k_with "subscriptTail" => ((k_here; (with_reducible show wpAny _ _ (subscriptTail _ _ (Value.ref _) (Value.int 0 _)) _ _ _); k_dflt (refine' script_item ?q60F ?q60l ?q60i ?q60n ?_; (case q60F => k_asm); (case q60l => assumption); (case q60i => assumption); (case q60n => assumption)); k_extra "z nm it")))
  (k_with "z upd3" => (first | exact Upd3.nil | (refine' Upd3.one ?q61a; (case q61a => k_extra "z upd3")) | (refine' Upd3.two ?q61a; (case q61a => k_extra "z upd3")) | (refine' Upd3.three ?q61a; (case q61a => k_extra "z upd3")) | (refine' Upd3.skip ?q61n ?q61a; (case q61n => (refine ⟨?_, ?_, ?_⟩ <;> k_ne)); (case q61a => k_extra "z upd3"))))
  (k_with "z upd2" => (first | exact Upd2.nil | (refine' Upd2.one ?q62a; (case q62a => k_extra "z upd2")) | (refine' Upd2.two ?q62a; (case q62a => k_extra "z upd2")) | (refine' Upd2.skip ?q62n ?q62a; (case q62n => (refine ⟨?_, ?_⟩ <;> k_ne)); (case q62a => k_extra "z upd2")) | (refine' Upd2.rest ?q62a; (case q62a => assumption))))
  (k_with "truthy ref" => ((k_here; (first
  | (k_dflt (refine' list_false ?q63N ?q63m ?_; (case q63N => k_asm); (case q63m => k_mem)))
  | (k_dflt (refine' list_true ?q63N ?q63m ?q63n ?q63z ?_; (case q63N => k_asm); (case q63m => k_mem); (case q63n => simp); (case q63z => simp; omega)))); (intro tk9))))
  (k_with "subscriptTail" => ((k_here; (with_reducible show wpAny _ _ (subscriptTail _ _ (Value.ref _) (Value.int (-1) _)) _ _ _); k_dflt (refine' listItems_neg ?q30N ?q30m ?q30z ?_; (case q30N => k_asm); (case q30m => k_mem); (case q30z => assumption)))))
  (k_with "z nm db" => ((intro xR dR t1R t2R t3R t4R t5R t6R u2R h' tk' oR TR F' N' nxR ndR neR exR htR; (try dsimp only at N' nxR ndR); (have hlR := Ext.len exR))))
  (k_with "call ref" => ((k_here; (with_reducible show wpAny _ _ (call (Value.ref _) [Value.ref _, Value.bytes _ _, Value.ref _, Value.int _ _, Value.bytes _ _] _) _ _ _); k_dflt (refine' call_fromdb ?q64B ?q64F ?q64X ?q64T ?q64N ?q64c1 ?q64c2 ?q64c3 ?q64c4 ?q64qm ?q64m1 ?q64ne ?q64H ?q64ot ?q64U ?q64z ?q64r ?q64lo ?q64s1 ?q64s2 ?q64rl ?_; (case q64F => k_asm); (case q64N => k_asm); (case q64B => k_asm); (case q64X => k_asm); (case q64T => k_asm); (case q64c1 => exact rfl); (case q64c2 => exact rfl); (case q64c3 => exact rfl); (case q64c4 => exact rfl); (case q64qm => k_mem); (case q64m1 => k_mem); (case q64H => k_extra "z hash"); (case q64ot => assumption); (case q64ne => k_ne); (case q64U => k_updF); (case q64z => omega); (case q64r => k_room); (case q64lo => assumption); (case q64s1 => omega); (case q64s2 => omega); (case q64rl => assumption)); k_extra "z nm db"; (try k_sweep))))
  (k_with "call ref" => ((k_here; (with_reducible show wpAny _ _ (call (Value.ref 109) _ _) _ _ _); refine stop ?_)))
  (k_with "call ref" => ((k_here; (with_reducible show wpAny _ _ (call (Value.ref 170) _ _) _ _ _); refine stop ?_)))
  (k_with "compareOp NotEq bytes bytes" => ((k_here; refine stop ?_)))
  (k_with "execs cons" => (((with_reducible show wpAny _ _ (execs (Stmt.If _ _ _ ⟨217, _, _, _⟩ :: _) _) _ _ _); refine stop ?_)))
  (k_with "k_mem" => (((repeat (first | exact List.Mem.head _ | exact memOf (by with_reducible assumption) | refine' List.Mem.tail _ ?_)); done)))
  (k_with "k_ne" => (first | (refine PySem.W.neN ?_; (try dsimp only); first | exact Apx.l (by with_reducible assumption) (by k_mem) | exact Apx.r (by with_reducible assumption) (by k_mem) | exact AllNe.at1 (by with_reducible assumption) (by k_mem) | exact AllNe.at2 (by with_reducible assumption) (by k_mem) | exact Off.at1 (by with_reducible assumption) (by with_reducible assumption) (by k_mem) | exact Off.at2 (by with_reducible assumption) (by with_reducible assumption) (by k_mem) | with_reducible assumption | omega)))
  (k_with "k_all" => (first | exact List.forall_mem_nil _ | exact Off.all (by with_reducible assumption) (by k_mem) | (refine' List.forall_mem_cons.mpr ⟨?q65a, ?q65b⟩; (case q65a => k_ne); (case q65b => k_all))))
  (k_with "z sub" => (first | exact Sub.nil _ | (refine' Sub.cons ?q66za ?q66zb; (case q66za => k_mem); (case q66zb => k_extra "z sub")) | (repeat (first | exact Sub.refl _ | refine' Sub.skip ?_))))
  (k_with "exec For Tuple Name cons nil" => (refine stop ?_))
  (k_with "pyIter ref" => (refine stop ?_))
  (k_with "call ref" => ((k_here; (with_reducible show wpAny _ _ (call (Value.ref 184) _ _) _ _ _); refine stop ?_)))
  (k_with "execs cons" => (((with_reducible show wpAny _ _ (execs (Stmt.If _ _ _ ⟨211, _, _, _⟩ :: _) _) _ _ _); refine stop ?_)))
  (k_with "assign Tuple" => ((k_here; (with_reducible show wpAny _ _ (assign (Expr.Tuple _ _ _) _ (Value.ref _)) _ _ _); k_dflt (refine' unpackN_ ?q67F ?q67N ?q67T ?q67k1 ?q67k2 ?q67k3 ?_; (case q67F => with_reducible assumption); (case q67N => with_reducible assumption); (case q67T => exact News.isTup (by with_reducible assumption) (by k_mem)); (case q67k1 => exact rfl); (case q67k2 => exact rfl); (case q67k3 => exact rfl)); intro h' F' N'; (try k_sweep))))
  (k_with "z msub" => (first | exact mnil | (refine' mcons ?q68za ?q68zb; (case q68za => k_mem); (case q68zb => k_extra "z msub"))))
  (k_with "z nm key" => (intro keyK tK tkK hkS hkV))
  (k_with "call builtin:int.to_bytes" => ((k_here; k_dflt (with_unfolding_all refine' to_key ?q69a ?q69b ?_; (case q69a => omega); (case q69b => assumption)); k_extra "z nm key")))
  (k_with "getMethod ref" => ((k_here; (with_reducible show wpAny _ _ (getMethod (Value.ref _) (Str.ofString "get") _) _ _ _); k_dflt (refine' get_dict ?q70N ?q70p ?q70x ?_; (case q70N => k_asm); (case q70p => k_mem); (case q70x => exact IsKB.exact (knd := intKind _ _) (by with_reducible assumption))))))
  (k_with "z nm get" => (intro bG uG tkG hbG))
  (k_with "call builtin:dict.get" => ((k_here; k_dflt (refine' rep_get ?q71N ?q71p ?q71d ?q71lo ?q71r ?q71k ?_; (case q71N => k_asm); (case q71p => k_mem); (case q71d => with_reducible assumption); (case q71lo => with_reducible assumption); (case q71r => with_reducible assumption); (case q71k => with_reducible assumption)); k_extra "z nm get")))
  (k_with "compareOp Eq bytes bytes" => ((k_here; refine eq_nil (by with_reducible assumption) ?_)))
  (k_with "compareOp NotEq bytes bytes" => ((k_here; refine ne_nil (by with_reducible assumption) ?_)))
  (k_with "z nm br" => ((first | ((with_reducible show BadK _); unfold BadK; intro eP gP hP tkP hpP RP UP FP; (try dsimp only)) | (intro qB bvB bsB nB h' tkB F' N' nqB hoB hsB hpB; (try k_sweep)))))
  (k_with "call ref" => ((k_here; (with_reducible show wpAny _ _ (call (Value.ref 81) [Value.ref _, Value.bytes _ _]) _ _ _); k_dflt (refine' call_branch ?q72B ?q72F ?q72X ?q72T ?q72XB ?q72TB ?q72D ?q72N ?q72c1 ?q72c2 ?q72c3 ?q72c4 ?q72m1 ?q72m2 ?q72m3 ?q72ne ?q72r ?q72s1 ?q72s2 ?q72ky ?q72hp ?q72hp2 ?q72db ?q72hin ?_ ?_; (case q72F => k_asm); (case q72N => k_asm); (case q72B => k_asm); (case q72X => k_asm); (case q72T => k_asm); (case q72D => exact ktsDicts_nil); (case q72XB => assumption); (case q72TB => assumption); (case q72c1 => exact rfl); (case q72c2 => exact rfl); (case q72c3 => exact rfl); (case q72c4 => exact rfl); (case q72m1 => k_mem); (case q72m2 => k_mem); (case q72m3 => k_mem); (case q72ne => (refine ⟨?_, ?_, ?_⟩ <;> k_ne)); (case q72r => k_room); (case q72s1 => omega); (case q72s2 => omega); (case q72ky => with_reducible assumption); (case q72hp => with_reducible assumption); (case q72hp2 => with_reducible assumption); (case q72db => with_reducible assumption); (case q72hin => with_reducible assumption)); (all_goals (k_extra "z nm br")))))
  (k_with "call ref" => ((k_here; (with_reducible show wpAny _ _ (call (Value.ref 177) _ _) _ _ _); refine stop ?_)))
  (k_with "execs cons" => (((with_reducible show wpAny _ _ (execs (Stmt.For _ _ _ _ ⟨208, _, _, _⟩ :: _) _) _ _ _); refine stop ?_)))
  (k_with "compareOp NotEq ref ref" => ((k_here; (with_reducible show wpAny _ _ (compareOp CmpOp.NotEq (Value.ref _) (Value.ref _)) _ _ _); refine stop ?_)))
  (k_with "subscriptTail" => ((k_here; (with_reducible show wpAny _ _ (subscriptTail _ _ (Value.ref _) (Value.int 1 _)) _ _ _); k_dflt (refine' pair1 ?q73N ?q73m ?_; (case q73N => with_reducible assumption); (case q73m => k_mem); k_whole))))
  (k_with "subscriptTail" => ((k_here; (with_reducible show wpAny _ _ (subscriptTail _ _ (Value.ref _) (Value.int 0 _)) _ _ _); k_dflt (refine' pair0 ?q74N ?q74m ?_; (case q74N => with_reducible assumption); (case q74m => k_mem); k_whole))))
  trivial
section
variable {prog : Program} {w : World} {g : Heap} {L fn : Addr} {s : Shared} {h : Heap} {tk : Nat} {m : Str → Option Value} {Q : Flow → Shared → Prop} {E1 : Value → Shared → Prop} {fa x dx da ta ca c5 sc pa bl ho fo : Addr} {ofa oca ocl ot odb o1 o2 o4 oh ofd : Obj} {ps : Array Value}
  {p : Program} {loose : List Str} {mean : ExcName → Option Value} {mg mb : Str → Option Value} {t1 t2 t3 t4 t5 t6 u1 u2 u3 u6 us ud ut uk : Tok} {size np nv k : Nat} {dflt root : Array UInt8} {T : List Oct} {D : List (Oct × Oct)} {Dh : List (Int × Oct)} {items ws vs : List Value} {ns : List Int} {tl keys : List (Addr × Obj)} {f : Nat → Oct} {xs : FdX}
set_option maxHeartbeats 4000000 in
theorem seg_try (B : Below callerA g [] g) (X : (hd0.heap_1 w.params).In g) (TT : Top p loose mean mg mb g) (F : Fr g L h m) (hsc : g.IsList sc items.toArray) (hints : IntsAre items ns) (hns : ns.length ≤ 63)
    (N : News g L h ((x, instObj 140 dx) :: (dx, dictOf (treeEs w t1 t2 t3 t4 t5 t6 (.int size u1) (.int (8 * size : Int) u2) (.bytes dflt u3) (.ref fa) (.ref da) (.bytes root u6)) 6) :: (da, odb) :: (ho, oh) :: (fo, ofd) :: (pa, listOf ws.toArray np) :: (bl, listOf vs.toArray nv) :: (fa, ofa) :: (ca, oca) :: (c5, ocl) :: (ta, ot) :: (L + 1 + 1 + 1 + 1, o4) :: (L + 1 + 1, o2) :: (L + 1, o1) :: (186, tabObj ps) :: tl))
    (hA : ApL [x, dx, da, ho, fo, pa, bl, fa, ca, c5, ta, L + 1 + 1 + 1 + 1, L + 1 + 1, L + 1, 186]) (hOff : Off tl [x, dx, da, ho, fo, pa, bl, fa, ca, c5, ta, L + 1 + 1 + 1 + 1, L + 1 + 1, L + 1, 186]) (H : LawH ofa oca ocl ca c5 ta) (hot : IsTbl prog w ot T) (hsz : T.length ≤ 1500) (lo : (ta == sysModules) = false) (loh : (ho == sysModules) = false) (lof : (fo == sysModules) = false)
    (hdb : IsKB (bytesKind prog w) odb D) (hszD : D.length ≤ 2000) (ok : DbOk T D) (hin : In T D (8 * size) f root.toList) (hh : IsKB (intKind prog w) oh Dh) (hrep : Rep Dh f dflt.toList 0 (8 * size)) (hfd : FdObj prog w ofd xs) (hkf : KeyFrom prog w [] keys xs) (hks : ∀ p ∈ keys, p ∈ tl) (cov : Cov T dflt.toList xs f 0 (8 * size))
    (hpast : ∀ v ∈ ws, PastIt T D size tl v) (hlast : LastOk prog w T D size dflt.toList ws tl o4) (hblk : Blk T dflt.toList (8 * size + 1) vs)
    (hd1 : o1.data = .cell (some (.int ((8 * size : Nat) : Int) ut))) (hd2 : o2.data = .cell (some (.ref ho))) (hwl : ws.length ≤ 10) (hk : k < 2 ^ (8 * size))
    (hs1 : 1 ≤ size) (hs2 : size ≤ 2) (hm1 : m "_law_hash" = some (.ref fa)) (hm2 : m "tree" = some (.ref x)) (hm3 : m "script" = some (.ref sc)) (hm4 : m "past" = some (.ref pa)) (hm5 : m "size" = some (.int (size : Int) us)) (hm6 : m "default" = some (.bytes dflt ud)) (hm7 : m "blanks" = some (.ref bl)) (hm8 : m "found" = some (.ref fo)) (hm9 : m "asked" = some (.int (k : Int) uk))
    (hQ : ∀ h' tk', (∀ b o, g.get? b = some o → h'.get? b = some o) → GrownAt 186 h' → Q (.ret (.bool true)) { s with heap := h', toks := tk' }) :
    wpAny (model prog w) (callerA.deeper (lawEnv L fn)) (execs (lawBody.drop 18) (lawEnv L fn)) Q (fun e s' => wpAny (model prog w) (callerA.deeper (lawEnv L fn)) (leaving (lawEnv L fn) e) (fun _ s'' => E1 e s'') (fun e' s'' => E1 e' s'') s') { s with heap := h, toks := tk } := by
  conv in (execs (List.drop 18 lawBody) _) => arg 1; whnf
  let od9 : Obj := dictOf (treeEs w t1 t2 t3 t4 t5 t6 (.int size u1) (.int (8 * size : Int) u2) (.bytes dflt u3) (.ref fa) (.ref da) (.bytes root u6)) 6
  have N : News g L h ((x, instObj 140 dx) :: (dx, od9) :: (da, odb) :: (ho, oh) :: (fo, ofd) :: (pa, listOf ws.toArray np) :: (bl, listOf vs.toArray nv) :: (fa, ofa) :: (ca, oca) :: (c5, ocl) :: (ta, ot) :: (L + 1 + 1 + 1 + 1, o4) :: (L + 1 + 1, o2) :: (L + 1, o1) :: (186, tabObj ps) :: tl) := N
  obtain ⟨a1, a2, a3, a4, a5, a6, a7, a8, a9, a10, a11, a12, a13, a14, _⟩ := hA
  k_steps
  · exact absurd hpP (by assumption)
  · unfold Stop
    with_reducible rename Fr _ _ _ _ => F9
    with_reducible rename News _ _ _ _ => N9
    exact seg_past B X TT F9 hsc hints hns (newsSub (l := (x, _) :: (dx, _) :: (da, odb) :: (pa, _) :: (bl, _) :: (fa, ofa) :: (ca, oca) :: (c5, ocl) :: (ta, ot) :: (L + 1 + 1 + 1 + 1, o4) :: (L + 1, o1) :: (186, tabObj ps) :: tl) N9 (by k_extra "z sub")) (by k_extra "z apl") (hOff.mono (by k_extra "z msub")) H hot hsz lo hdb hszD ok hpast hlast hblk hd1 hwl hs1 hs2 hm1 hm2 hm3 hm4 hm5 hm6 hm7 hQ
  unfold Stop
  with_reducible rename Fr _ _ _ _ => F2
  with_reducible rename News _ _ _ _ => N2
  refine' call_ways (f := f) (xs := xs) (dflt := dflt.toList) (pp := k) (d := 8 * size) B F2 X TT N2 rfl rfl rfl rfl ?w1 ?w2 ?wne ?wr ?wu ?wd hk hblk ?wn ?wb hfd ?wk cov lof ?_
  case w1 => k_mem
  case w2 => k_mem
  case wne => k_ne
  case wr => k_room
  case wu => (have hr9 := law_units L fn; omega)
  case wd => omega
  case wn => omega
  case wb => omega
  case wk => exact keys_at N2 hkf hks (fun p hp => by repeat (first | exact hp | refine' List.Mem.tail _ ?_)) (hOff.notin (off2 (by k_mem) (by k_mem)))
  intro rW q1W q2W v1W v2W b1W b2W n1W n2W n3W hW tkW FW NW ho1 hs1W ho2 hs2W
  clear F2 N2
  have hbs : bsB = b2W := Sibs.eq hsB hs2W
  subst hbs
  k_steps
  unfold Stop
  with_reducible rename Fr _ _ _ _ => F3
  with_reducible rename News _ _ _ _ => N3
  refine' ne_tup N3 ?v1 ?v2 hoB ho2 ?vu ?_
  case v1 => k_mem
  case v2 => k_mem
  case vu => (have hr9 := law_units L fn; omega)
  k_steps
  all_goals first
    | exact absurd (by assumption) hpB
    | (unfold Stop
       with_reducible rename Fr _ _ _ _ => F9
       with_reducible rename News _ _ _ _ => N9
       exact seg_past B X TT F9 hsc hints hns (newsSub (l := (x, _) :: (dx, _) :: (da, odb) :: (pa, _) :: (bl, _) :: (fa, ofa) :: (ca, oca) :: (c5, ocl) :: (ta, ot) :: (L + 1 + 1 + 1 + 1, o4) :: (L + 1, o1) :: (186, tabObj ps) :: tl) N9 (by k_extra "z sub")) (by k_extra "z apl") (hOff.mono (by k_extra "z msub")) H hot hsz lo hdb hszD ok hpast hlast hblk hd1 hwl hs1 hs2 hm1 hm2 hm3 hm4 hm5 hm6 hm7 hQ)
end
end -- S29
section -- S30a
section
variable {prog : Program} {w : World} {A : Around} {s : Shared} {g : Heap} {E : Value → Shared → Prop} {L : Addr} {m : Str → Option Value} {base : Heap} {fr : List Env} {env : Env} {news : List (Addr × Obj)}
  {p : Program} {loose : List Str} {mean : ExcName → Option Value} {mg mb : Str → Option Value} {A₀ : Around} {Q : Value → Shared → Prop}
theorem call_num {n : Int} {u1 u3 : Tok} {size : Nat} (B : Below A₀ base fr g) (F : Fr g L s.heap m) (X : (hd0.heap_1 w.params).In g) (TT : Top p loose mean mg mb g) (N : News g L s.heap news) (hA : A.frames = some (env :: fr)) (hf : env.frame = some L) (hke : env.scope.kind = .function) (hh : A.handled = none)
    (hroom : A.depth + 6 < recursionLimit) (hs1 : 1 ≤ size) (hs2 : size ≤ 2)
    (h : ∀ (k : Nat) t h' tk', Fr g L h' m → News g L h' news → k < 2 ^ (8 * size) → Q (.int (k : Int) t) { s with heap := h', toks := tk' }) : wpAny (model prog w) A (call (.ref 158) [.int n u1, .int ((8 * size : Nat) : Int) u3]) Q E s := by
  have e : ((8 * size : Nat) : Int) = 8 * (size : Int) := by simp
  rw [e]
  exact call_number B F X TT N hA hf hke hh hroom hs1 hs2 h
end
end -- S30a
section -- S30
theorem lines_s30_1 : True := by
  w_top off
  k_with_none
  (k_with "execs cons" => (((with_reducible show wpAny _ _ (execs (Stmt.Assign _ _ _ :: _) _) _ _ _); refine execsGen fun P8 hP8 => ?_)))
  (k_with "execs cons" => (((with_reducible show wpAny _ _ (execs (Stmt.Expr _ _ :: _) _) _ _ _); refine execsGen fun P8 hP8 => ?_)))
  (k_with "execs cons" => (((with_reducible show wpAny _ _ (execs (Stmt.AugAssign _ _ _ _ :: _) _) _ _ _); refine execsGen fun P8 hP8 => ?_)))
  (k_with "FinQ" => ((refine finOut (by with_reducible assumption) ?_; (try dsimp only))))
  (k_with "exec Try" => (((with_reducible show wpAny _ _ (exec (Stmt.Try _ (_ :: _) _ [] _) _) _ _ _); refine wpAny_Try_except ?_)))
  (k_with "eval Name" => ((k_here; k_dflt (refine' nameX_L ?q10F ?q10v ?_ ?q10a ?q10b; (case q10a => rfl); (case q10b => rfl); (case q10F => k_asm); (case q10v => assumption); k_whole))))
  (k_with "k_ne" => (first | (refine PySem.W.neN ?_; (try dsimp only); first | exact Apx.l (by with_reducible assumption) (by k_mem) | exact Apx.r (by with_reducible assumption) (by k_mem) | exact AllNe.at1 (by with_reducible assumption) (by k_mem) | exact AllNe.at2 (by with_reducible assumption) (by k_mem) | omega)))
  (k_with "nm_c0" => ((intro hC F' N'; (try dsimp only at N'); (try k_sweep))))
  (k_with "noteFrame ref" => ((k_here; (first
  | (k_dflt (refine' catch0 (mean := _) ?q44A ?q44R ?q44F ?q44U ?q44X ?q44T ?q44c ?q44e ?_ ?q44hE ?q44hk ?q44hx ?q44hd; (case q44R => assumption); (case q44A => exact rfl); (case q44F => assumption); (case q44U => assumption); (case q44X => assumption); (case q44T => assumption)))
  | (k_dflt (refine' catch0 (mean := _) ?q44A ?q44R ?q44F ?q44U ?q44X ?q44T ?q44c ?q44e ?_ ?q44hE ?q44hk ?q44hx ?q44hd; (case q44R => exact RaisedS.toSN (by assumption)); (case q44A => exact rfl); (case q44F => assumption); (case q44U => assumption); (case q44X => assumption); (case q44T => assumption)))); (case q44c => kts_nm); (case q44e => kts_exm); (case q44hk => exact rfl); (case q44hx => exact rfl); (case q44hd => decide); (case q44hE => with_unfolding_all passes_own); k_extra "nm_c0")))
  (k_with "InitBack" => ((dsimp only [InitBack])))
  (k_with "loadName" => ((k_here; k_dflt (refine' loadX ?q45F ?q45v ?_ ?q45a ?q45b; (case q45a => rfl); (case q45b => rfl); (case q45F => k_asm); (case q45v => first | assumption | exact rfl); k_whole))))
  (k_with "z apx" => (first | exact Apx.nil _ | (refine' Apx.cons ?q50za ?q50zb; (case q50za => k_ne); (case q50zb => k_extra "z apx"))))
  (k_with "z apl" => (first | exact True.intro | (refine' And.intro ?q51za ?q51zb; (case q51za => k_extra "z apx"); (case q51zb => k_extra "z apl"))))
  (k_with "z notin" => (first | exact notin_nil | (refine' notin_cons ?q52za ?q52zb; (case q52za => k_ne); (case q52zb => k_extra "z notin"))))
  (k_with "z sub" => (first | exact Sub.nil _ | (refine' Sub.cons ?q53za ?q53zb; (case q53za => k_mem); (case q53zb => k_extra "z sub"))))
  (k_with "z hash" => ((refine' LawH.at ?q54zh ?q54zn ?q54z1 ?q54z2 ?q54z3 ?q54z4 ?q54z5 ?q54z6; (case q54zh => assumption); (case q54zn => k_asm); (case q54z1 => k_mem); (case q54z2 => k_mem); (case q54z3 => k_mem); (case q54z4 => k_extra "z notin"); (case q54z5 => k_extra "z notin"); (case q54z6 => k_extra "z notin"))))
  (k_with "z hashnew" => ((intro h1 x dx F1 N1 nx nd; refine' hashNew ?q55zh ?q55z1 ?q55z2 ?q55z3 ?q55z4 ?q55z5 ?q55z6 N1 nx nd; (case q55zh => assumption); (case q55z1 => k_mem); (case q55z2 => k_mem); (case q55z3 => k_mem); (case q55z4 => k_ne); (case q55z5 => k_ne); (case q55z6 => k_ne))))
  (k_with "z binds" => ((intro x9 s9 fd9 o9 X9 ho9 hd9; (refine' lookup_inj ho9 ?q20h29 ?_; (case q20h29 => k_is); intro h39); subst h39; cases hd9; first | exact BindsTo.of_eq rfl | exact binds_K X9 rfl (by k_is) rfl rfl rfl)))
  (k_with "z nm new" => ((intro xN dN aN rootN t1N t2N t3N t4N t5N t6N u2N u6N oN odN TN DN h' tk' F' N' nxN ndN naN neN exN htN hdN okN lenN inN; (try dsimp only at N' nxN ndN naN); (have hlN := Ext.len exN))))
  (k_with "call ref" => ((k_here; (with_reducible show wpAny _ _ (call (Value.ref 140) _ _) _ _ _); k_dflt (refine' call_new (size := 32) ?q56B ?q56F ?q56X ?q56T ?q56N ?q56c1 ?q56c2 ?q56c3 ?q56c4 ?q56hb ?q56H ?q56ot ?q56U ?q56z ?q56r ?q56lo ?q56s1 ?q56s2 ?_; (case q56F => k_asm); (case q56N => k_asm); (case q56B => k_asm); (case q56X => k_asm); (case q56T => k_asm); (case q56c1 => exact rfl); (case q56c2 => exact rfl); (case q56c3 => exact rfl); (case q56c4 => exact rfl); (case q56hb => k_extra "z binds"); (case q56H => k_extra "z hashnew"); (case q56ot => assumption); (case q56U => k_updF); (case q56z => omega); (case q56r => k_room); (case q56lo => assumption); (case q56s1 => omega); (case q56s2 => omega)); k_extra "z nm new"; (try k_sweep))))
  (k_with "z nm blanks" => ((intro lK vsK nK h' tk' oK TK F' N' nlK exK htK blK; (try dsimp only at N' nlK); (have hlK := Ext.len exK))))
  (k_with "call ref" => ((k_here; (with_reducible show wpAny _ _ (call (Value.ref 165) _ _) _ _ _); k_dflt (refine' call_blanks (d := 256) ?q57B ?q57F ?q57X ?q57T ?q57N ?q57c1 ?q57c2 ?q57c3 ?q57c4 ?q57H ?q57ot ?q57U ?q57z ?q57r ?q57dd ?q57lo ?_; (case q57F => k_asm); (case q57N => k_asm); (case q57B => k_asm); (case q57X => k_asm); (case q57T => k_asm); (case q57c1 => exact rfl); (case q57c2 => exact rfl); (case q57c3 => exact rfl); (case q57c4 => exact rfl); (case q57H => k_extra "z hash"); (case q57ot => assumption); (case q57U => k_updF); (case q57z => omega); (case q57r => k_room); (case q57dd => omega); (case q57lo => assumption)); k_extra "z nm blanks"; (try k_sweep))))
  (k_with "z nm blk" => (intro bK uK hbK))
  (k_with "subscriptTail" => ((k_here; (with_reducible show wpAny _ _ (subscriptTail _ _ (Value.ref _) (Value.int _ _)) _ _ _); k_dflt (refine' item_blk (d := 256) ?q58N ?q58m ?q58b ?q58d ?q58n ?_; (case q58N => k_asm); (case q58m => k_mem); (case q58b => assumption); (case q58d => omega); (case q58n => omega)); k_extra "z nm blk")))
  (k_with "compareOp NotEq bytes bytes" => ((k_here; refine stop ?_)))
  (k_with "z nm sc" => (intro hsc9 tkSc))
  (k_with "truthy ref" => ((k_here; k_dflt (refine' script_true ?q59F ?q59l ?q59i ?q59n ?_ ?_; (case q59F => k_asm); (case q59l => assumption); (case q59i => assumption); (case q59n => assumption)); (all_goals k_extra "z nm sc"))))
  (k_with "z nm it" => (intro nIt uIt))
  (k_with "subscriptTail" => ((k_here; (with_reducible show wpAny _ _ (subscriptTail _ _ (Value.ref _) (Value.int 0 _)) _ _ _); k_dflt (refine' script_item ?q60F ?q60l ?q60i ?q60n ?_; (case q60F => k_asm); (case q60l => assumption); (case q60i => assumption); (case q60n => assumption)); k_extra "z nm it")))
  (k_with "z upd3" => (first | exact Upd3.nil | (refine' Upd3.one ?q61a; (case q61a => k_extra "z upd3")) | (refine' Upd3.two ?q61a; (case q61a => k_extra "z upd3")) | (refine' Upd3.three ?q61a; (case q61a => k_extra "z upd3")) | (refine' Upd3.skip ?q61n ?q61a; (case q61n => (refine ⟨?_, ?_, ?_⟩ <;> k_ne)); (case q61a => k_extra "z upd3"))))
  (k_with "z upd2" => (first | exact Upd2.nil | (refine' Upd2.one ?q62a; (case q62a => k_extra "z upd2")) | (refine' Upd2.two ?q62a; (case q62a => k_extra "z upd2")) | (refine' Upd2.skip ?q62n ?q62a; (case q62n => (refine ⟨?_, ?_⟩ <;> k_ne)); (case q62a => k_extra "z upd2")) | (refine' Upd2.rest ?q62a; (case q62a => assumption))))
  (k_with "k_mem" => (((repeat (first | exact List.Mem.head _ | exact memOf (by with_reducible assumption) | refine' List.Mem.tail _ ?_)); done)))
  (k_with "k_ne" => (first | (refine PySem.W.neN ?_; (try dsimp only); first | exact Apx.l (by with_reducible assumption) (by k_mem) | exact Apx.r (by with_reducible assumption) (by k_mem) | exact AllNe.at1 (by with_reducible assumption) (by k_mem) | exact AllNe.at2 (by with_reducible assumption) (by k_mem) | exact Off.at1 (by with_reducible assumption) (by with_reducible assumption) (by k_mem) | exact Off.at2 (by with_reducible assumption) (by with_reducible assumption) (by k_mem) | with_reducible assumption | omega)))
  (k_with "k_all" => (first | exact List.forall_mem_nil _ | exact Off.all (by with_reducible assumption) (by k_mem) | (refine' List.forall_mem_cons.mpr ⟨?q65a, ?q65b⟩; (case q65a => k_ne); (case q65b => k_all))))
  (k_with "z sub" => (first | exact Sub.nil _ | (refine' Sub.cons ?q66za ?q66zb; (case q66za => k_mem); (case q66zb => k_extra "z sub")) | (repeat (first | exact Sub.refl _ | refine' Sub.skip ?_))))
  (k_with "exec For Tuple Name cons nil" => (refine stop ?_))
  (k_with "pyIter ref" => (refine stop ?_))
  (k_with "call ref" => ((k_here; (with_reducible show wpAny _ _ (call (Value.ref 184) _ _) _ _ _); refine stop ?_)))
  (k_with "execs cons" => (((with_reducible show wpAny _ _ (execs (Stmt.If _ _ _ ⟨211, _, _, _⟩ :: _) _) _ _ _); refine stop ?_)))
  (k_with "assign Tuple" => ((k_here; (with_reducible show wpAny _ _ (assign (Expr.Tuple _ _ _) _ (Value.ref _)) _ _ _); k_dflt (refine' unpackN_ ?q67F ?q67N ?q67T ?q67k1 ?q67k2 ?q67k3 ?_; (case q67F => with_reducible assumption); (case q67N => with_reducible assumption); (case q67T => exact News.isTup (by with_reducible assumption) (by k_mem)); (case q67k1 => exact rfl); (case q67k2 => exact rfl); (case q67k3 => exact rfl)); intro h' F' N'; (try k_sweep))))
  (k_with "z msub" => (first | exact mnil | (refine' mcons ?q68za ?q68zb; (case q68za => k_mem); (case q68zb => k_extra "z msub"))))
  (k_with "z nm num" => ((intro kN uN hN tkN F' N' hkN; (try k_sweep))))
  (k_with "call ref" => ((k_here; (with_reducible show wpAny _ _ (call (Value.ref 158) _ _) _ _ _); k_dflt (refine' call_num ?q75B ?q75F ?q75X ?q75T ?q75N ?q75c1 ?q75c2 ?q75c3 ?q75c4 ?q75r ?q75s1 ?q75s2 ?_; (case q75F => k_asm); (case q75N => k_asm); (case q75B => k_asm); (case q75X => k_asm); (case q75T => k_asm); (case q75c1 => exact rfl); (case q75c2 => exact rfl); (case q75c3 => exact rfl); (case q75c4 => exact rfl); (case q75r => k_room); (case q75s1 => omega); (case q75s2 => omega)); k_extra "z nm num")))
  (k_with "truthy ref" => ((k_here; k_dflt (refine' script_true ?q76F ?q76l ?q76i ?q76n ?_ ?_; (case q76F => k_asm); (case q76l => with_reducible assumption); (case q76i => with_reducible assumption); (case q76n => with_reducible assumption)); (all_goals k_extra "z nm sc"))))
  (k_with "subscriptTail" => ((k_here; (with_reducible show wpAny _ _ (subscriptTail _ _ (Value.ref _) (Value.int 0 _)) _ _ _); k_dflt (refine' script_item ?q77F ?q77l ?q77i ?q77n ?_; (case q77F => k_asm); (case q77l => with_reducible assumption); (case q77i => with_reducible assumption); (case q77n => with_reducible assumption)); k_extra "z nm it")))
  (k_with "execs cons" => (((with_reducible show wpAny _ _ (execs (Stmt.Try _ _ _ _ ⟨201, _, _, _⟩ :: _) _) _ _ _); refine stop ?_)))
  trivial
section
variable {prog : Program} {w : World} {g : Heap} {L fn : Addr} {s : Shared} {h : Heap} {tk : Nat} {m : Str → Option Value} {Q : Flow → Shared → Prop} {E1 : Value → Shared → Prop} {fa x dx da ta ca c5 sc pa bl ho fo : Addr} {ofa oca ocl ot odb o1 o2 o4 oh ofd : Obj} {ps : Array Value}
  {p : Program} {loose : List Str} {mean : ExcName → Option Value} {mg mb : Str → Option Value} {t1 t2 t3 t4 t5 t6 u1 u2 u3 u6 us ud ut : Tok} {size np nv : Nat} {dflt root : Array UInt8} {T : List Oct} {D : List (Oct × Oct)} {Dh : List (Int × Oct)} {items ws vs : List Value} {ns : List Int} {tl keys : List (Addr × Obj)} {f : Nat → Oct} {xs : FdX}
set_option maxHeartbeats 4000000 in
theorem seg_asked (B : Below callerA g [] g) (X : (hd0.heap_1 w.params).In g) (TT : Top p loose mean mg mb g) (F : Fr g L h m) (hsc : g.IsList sc items.toArray) (hints : IntsAre items ns) (hns : ns.length ≤ 63)
    (N : News g L h ((x, instObj 140 dx) :: (dx, dictOf (treeEs w t1 t2 t3 t4 t5 t6 (.int size u1) (.int (8 * size : Int) u2) (.bytes dflt u3) (.ref fa) (.ref da) (.bytes root u6)) 6) :: (da, odb) :: (ho, oh) :: (fo, ofd) :: (pa, listOf ws.toArray np) :: (bl, listOf vs.toArray nv) :: (fa, ofa) :: (ca, oca) :: (c5, ocl) :: (ta, ot) :: (L + 1 + 1 + 1 + 1, o4) :: (L + 1 + 1, o2) :: (L + 1, o1) :: (186, tabObj ps) :: tl))
    (hA : ApL [x, dx, da, ho, fo, pa, bl, fa, ca, c5, ta, L + 1 + 1 + 1 + 1, L + 1 + 1, L + 1, 186]) (hOff : Off tl [x, dx, da, ho, fo, pa, bl, fa, ca, c5, ta, L + 1 + 1 + 1 + 1, L + 1 + 1, L + 1, 186]) (H : LawH ofa oca ocl ca c5 ta) (hot : IsTbl prog w ot T) (hsz : T.length ≤ 1500) (lo : (ta == sysModules) = false) (loh : (ho == sysModules) = false) (lof : (fo == sysModules) = false)
    (hdb : IsKB (bytesKind prog w) odb D) (hszD : D.length ≤ 2000) (ok : DbOk T D) (hin : In T D (8 * size) f root.toList) (hh : IsKB (intKind prog w) oh Dh) (hrep : Rep Dh f dflt.toList 0 (8 * size)) (hfd : FdObj prog w ofd xs) (hkf : KeyFrom prog w [] keys xs) (hks : ∀ p ∈ keys, p ∈ tl) (cov : Cov T dflt.toList xs f 0 (8 * size))
    (hpast : ∀ v ∈ ws, PastIt T D size tl v) (hlast : LastOk prog w T D size dflt.toList ws tl o4) (hblk : Blk T dflt.toList (8 * size + 1) vs)
    (hd1 : o1.data = .cell (some (.int ((8 * size : Nat) : Int) ut))) (hd2 : o2.data = .cell (some (.ref ho))) (hwl : ws.length ≤ 10)
    (hs1 : 1 ≤ size) (hs2 : size ≤ 2) (hm1 : m "_law_hash" = some (.ref fa)) (hm2 : m "tree" = some (.ref x)) (hm3 : m "script" = some (.ref sc)) (hm4 : m "past" = some (.ref pa)) (hm5 : m "size" = some (.int (size : Int) us)) (hm6 : m "default" = some (.bytes dflt ud)) (hm7 : m "blanks" = some (.ref bl)) (hm8 : m "found" = some (.ref fo))
    (hQ : ∀ h' tk', (∀ b o, g.get? b = some o → h'.get? b = some o) → GrownAt 186 h' → Q (.ret (.bool true)) { s with heap := h', toks := tk' }) :
    wpAny (model prog w) (callerA.deeper (lawEnv L fn)) (execs (lawBody.drop 17) (lawEnv L fn)) Q (fun e s' => wpAny (model prog w) (callerA.deeper (lawEnv L fn)) (leaving (lawEnv L fn) e) (fun _ s'' => E1 e s'') (fun e' s'' => E1 e' s'') s') { s with heap := h, toks := tk } := by
  conv in (execs (List.drop 17 lawBody) _) => arg 1; whnf
  let od9 : Obj := dictOf (treeEs w t1 t2 t3 t4 t5 t6 (.int size u1) (.int (8 * size : Int) u2) (.bytes dflt u3) (.ref fa) (.ref da) (.bytes root u6)) 6
  have N : News g L h ((x, instObj 140 dx) :: (dx, od9) :: (da, odb) :: (ho, oh) :: (fo, ofd) :: (pa, listOf ws.toArray np) :: (bl, listOf vs.toArray nv) :: (fa, ofa) :: (ca, oca) :: (c5, ocl) :: (ta, ot) :: (L + 1 + 1 + 1 + 1, o4) :: (L + 1 + 1, o2) :: (L + 1, o1) :: (186, tabObj ps) :: tl) := N
  have hA0 := hA
  obtain ⟨a1, a2, a3, a4, a5, a6, a7, a8, a9, a10, a11, a12, a13, a14, _⟩ := hA
  k_steps
  all_goals unfold Stop
  all_goals (with_reducible rename Fr _ _ _ _ => F9)
  all_goals (with_reducible rename News _ _ _ _ => N9)
  · exact seg_try (k := kN) B X TT F9 hsc hints hns N9 hA0 hOff H hot hsz lo loh lof hdb hszD ok hin hh hrep hfd hkf hks cov hpast hlast hblk hd1 hd2 hwl hkN hs1 hs2 hm1 hm2 hm3 hm4 hm5 hm6 hm7 hm8 rfl hQ
  · exact seg_try (k := 0) B X TT F9 hsc hints hns N9 hA0 hOff H hot hsz lo loh lof hdb hszD ok hin hh hrep hfd hkf hks cov hpast hlast hblk hd1 hd2 hwl (Nat.two_pow_pos _) hs1 hs2 hm1 hm2 hm3 hm4 hm5 hm6 hm7 hm8 rfl hQ
end
end -- S30
section -- S31a
/-- numbers of the keys -/
def NumIs (bnd : Nat) (y : Value) : Prop := ∃ (j : Nat) (t : Tok), y = .int ((j : Nat) : Int) t ∧ j < bnd
section
variable {prog : Program} {w : World} {A : Around} {h₀ : Heap} {L : Addr} {m : Str → Option Value} {env : Env} {elt : Expr} {x : Str} {scope : Scope} {cl : List (Str × Addr)} {s : Shared} {S : List (Addr × Obj) → Prop} {Fin : List Value → List (Addr × Obj) → Prop} {news : List (Addr × Obj)} {bnd : Nat}
theorem keys_rest {vs : List Value} {ks : List Int} (hi : IntsAre vs ks)
    (turn : ∀ k t I oI C oC D m₂ ys h tk (E' : Value → Shared → Prop), LCg.NsObj oC m₂ → m₂ x = some (.int k t) → Fr h₀ L h m → News h₀ L h ((I, oI) :: (C, oC) :: (D, LCg.lst ys) :: news) → LCg.Off3 I C D news → ((@Ne Nat I C) ∧ (@Ne Nat I D) ∧ (@Ne Nat C D)) → S news →
      wpAny (model prog w) A (eval elt (compEnvC scope cl C env)) (fun y s₂ => ∃ h' tk', s₂ = { s with heap := h', toks := tk' } ∧ Fr h₀ L h' m ∧ News h₀ L h' ((I, oI) :: (C, oC) :: (D, LCg.lst ys) :: news) ∧ NumIs bnd y) E' { s with heap := h, toks := tk })
    (hS : S news) (fin : ∀ ys, ys.length = vs.length → (∀ y ∈ ys, NumIs bnd y) → Fin ys news) : LCg.CompRest prog w A h₀ L m env elt x scope cl s S (fun i v => vs.toArray[i]? = some v) Fin vs.toArray.size 0 [] news := by
  have key : ∀ (j i : Nat) (ys : List Value), i + j = vs.length → ys.length = i → (∀ y ∈ ys, NumIs bnd y) → LCg.CompRest prog w A h₀ L m env elt x scope cl s S (fun i v => vs.toArray[i]? = some v) Fin j i ys news := by
    intro j
    induction j with
    | zero => intro i ys h1 h2 h3; exact LCg.CompRest.zero (fin ys (by omega) h3)
    | succ j ih =>
      intro i ys h1 h2 h3
      refine LCg.CompRest.succ ?_
      intro v I oI C oC D m₂ h tk E' hv hC hx F N off ne
      obtain ⟨k, t, hv', hk⟩ := IntsAre.at hi i v (by simpa using hv)
      rw [hv'] at hx
      refine wpAny_mono (turn k t I oI C oC D m₂ ys h tk E' hC hx F N off ne hS) (fun y s₂ hq => ?_) fun _ _ e => e
      obtain ⟨h', tk', e, F', N', hy⟩ := hq
      exact ⟨h', tk', news, e, F', N', off, hS, ih (i + 1) (ys ++ [y]) (by omega) (by simp [h2]) fun z hz => by
        rcases List.mem_append.mp hz with hz | hz
        · exact h3 z hz
        · rw [List.mem_singleton.mp hz]; exact hy⟩
  have e : vs.toArray.size = vs.length := by simp
  rw [e]
  exact key vs.length 0 [] (by omega) rfl (fun y hy => by cases hy)
end
theorem num3 {size : Nat} {t1 t2 t3 : Tok} {ys : List Value} (hs1 : 1 ≤ size) (hyk : ∀ y ∈ ys, NumIs (2 ^ (8 * size)) y) : ∀ v ∈ [Value.int 0 t1, Value.int 3 t2, Value.int 129 t3] ++ ys, NumIs (2 ^ (8 * size)) v := fun v hv => by
  have h256 : 2 ^ 8 ≤ 2 ^ (8 * size) := Nat.pow_le_pow_right (by decide) (by omega)
  rcases List.mem_append.mp hv with hv | hv
  · simp only [List.mem_cons, List.not_mem_nil, or_false] at hv
    rcases hv with rfl | rfl | rfl
    · exact ⟨0, _, rfl, by omega⟩
    · exact ⟨3, _, rfl, by omega⟩
    · exact ⟨129, _, rfl, by omega⟩
  · exact hyk v hv
theorem ne_bb {prog : Program} {w : World} {A : Around} {E : Value → Shared → Prop} {s : Shared} {b : Bool} {Q : Value → Shared → Prop} (h : Q (.bool false) s) : wpAny (model prog w) A (compareOp .NotEq (.bool b) (.bool b)) Q E s := by
  refine ne_bool ?_
  have : (b != b) = false := by cases b <;> rfl
  rw [this]; exact h
end -- S31a
section -- S31
theorem lines_s31_1 : True := by
  w_top off
  k_with_none
  (k_with "execs cons" => (((with_reducible show wpAny _ _ (execs (Stmt.Assign _ _ _ :: _) _) _ _ _); refine execsGen fun P8 hP8 => ?_)))
  (k_with "execs cons" => (((with_reducible show wpAny _ _ (execs (Stmt.Expr _ _ :: _) _) _ _ _); refine execsGen fun P8 hP8 => ?_)))
  (k_with "execs cons" => (((with_reducible show wpAny _ _ (execs (Stmt.AugAssign _ _ _ _ :: _) _) _ _ _); refine execsGen fun P8 hP8 => ?_)))
  (k_with "FinQ" => ((refine finOut (by with_reducible assumption) ?_; (try dsimp only))))
  (k_with "exec Try" => (((with_reducible show wpAny _ _ (exec (Stmt.Try _ (_ :: _) _ [] _) _) _ _ _); refine wpAny_Try_except ?_)))
  (k_with "eval Name" => ((k_here; k_dflt (refine' nameX_L ?q10F ?q10v ?_ ?q10a ?q10b; (case q10a => rfl); (case q10b => rfl); (case q10F => k_asm); (case q10v => assumption); k_whole))))
  (k_with "k_ne" => (first | (refine PySem.W.neN ?_; (try dsimp only); first | exact Apx.l (by with_reducible assumption) (by k_mem) | exact Apx.r (by with_reducible assumption) (by k_mem) | exact AllNe.at1 (by with_reducible assumption) (by k_mem) | exact AllNe.at2 (by with_reducible assumption) (by k_mem) | omega)))
  (k_with "nm_c0" => ((intro hC F' N'; (try dsimp only at N'); (try k_sweep))))
  (k_with "noteFrame ref" => ((k_here; (first
  | (k_dflt (refine' catch0 (mean := _) ?q44A ?q44R ?q44F ?q44U ?q44X ?q44T ?q44c ?q44e ?_ ?q44hE ?q44hk ?q44hx ?q44hd; (case q44R => assumption); (case q44A => exact rfl); (case q44F => assumption); (case q44U => assumption); (case q44X => assumption); (case q44T => assumption)))
  | (k_dflt (refine' catch0 (mean := _) ?q44A ?q44R ?q44F ?q44U ?q44X ?q44T ?q44c ?q44e ?_ ?q44hE ?q44hk ?q44hx ?q44hd; (case q44R => exact RaisedS.toSN (by assumption)); (case q44A => exact rfl); (case q44F => assumption); (case q44U => assumption); (case q44X => assumption); (case q44T => assumption)))); (case q44c => kts_nm); (case q44e => kts_exm); (case q44hk => exact rfl); (case q44hx => exact rfl); (case q44hd => decide); (case q44hE => with_unfolding_all passes_own); k_extra "nm_c0")))
  (k_with "InitBack" => ((dsimp only [InitBack])))
  (k_with "loadName" => ((k_here; k_dflt (refine' loadX ?q45F ?q45v ?_ ?q45a ?q45b; (case q45a => rfl); (case q45b => rfl); (case q45F => k_asm); (case q45v => first | assumption | exact rfl); k_whole))))
  (k_with "z apx" => (first | exact Apx.nil _ | (refine' Apx.cons ?q50za ?q50zb; (case q50za => k_ne); (case q50zb => k_extra "z apx"))))
  (k_with "z apl" => (first | exact True.intro | (refine' And.intro ?q51za ?q51zb; (case q51za => k_extra "z apx"); (case q51zb => k_extra "z apl"))))
  (k_with "z notin" => (first | exact notin_nil | (refine' notin_cons ?q52za ?q52zb; (case q52za => k_ne); (case q52zb => k_extra "z notin"))))
  (k_with "z sub" => (first | exact Sub.nil _ | (refine' Sub.cons ?q53za ?q53zb; (case q53za => k_mem); (case q53zb => k_extra "z sub"))))
  (k_with "z hash" => ((refine' LawH.at ?q54zh ?q54zn ?q54z1 ?q54z2 ?q54z3 ?q54z4 ?q54z5 ?q54z6; (case q54zh => assumption); (case q54zn => k_asm); (case q54z1 => k_mem); (case q54z2 => k_mem); (case q54z3 => k_mem); (case q54z4 => k_extra "z notin"); (case q54z5 => k_extra "z notin"); (case q54z6 => k_extra "z notin"))))
  (k_with "z hashnew" => ((intro h1 x dx F1 N1 nx nd; refine' hashNew ?q55zh ?q55z1 ?q55z2 ?q55z3 ?q55z4 ?q55z5 ?q55z6 N1 nx nd; (case q55zh => assumption); (case q55z1 => k_mem); (case q55z2 => k_mem); (case q55z3 => k_mem); (case q55z4 => k_ne); (case q55z5 => k_ne); (case q55z6 => k_ne))))
  (k_with "z binds" => ((intro x9 s9 fd9 o9 X9 ho9 hd9; (refine' lookup_inj ho9 ?q20h29 ?_; (case q20h29 => k_is); intro h39); subst h39; cases hd9; first | exact BindsTo.of_eq rfl | exact binds_K X9 rfl (by k_is) rfl rfl rfl)))
  (k_with "z nm new" => ((intro xN dN aN rootN t1N t2N t3N t4N t5N t6N u2N u6N oN odN TN DN h' tk' F' N' nxN ndN naN neN exN htN hdN okN lenN inN; (try dsimp only at N' nxN ndN naN); (have hlN := Ext.len exN))))
  (k_with "call ref" => ((k_here; (with_reducible show wpAny _ _ (call (Value.ref 140) _ _) _ _ _); k_dflt (refine' call_new (size := 32) ?q56B ?q56F ?q56X ?q56T ?q56N ?q56c1 ?q56c2 ?q56c3 ?q56c4 ?q56hb ?q56H ?q56ot ?q56U ?q56z ?q56r ?q56lo ?q56s1 ?q56s2 ?_; (case q56F => k_asm); (case q56N => k_asm); (case q56B => k_asm); (case q56X => k_asm); (case q56T => k_asm); (case q56c1 => exact rfl); (case q56c2 => exact rfl); (case q56c3 => exact rfl); (case q56c4 => exact rfl); (case q56hb => k_extra "z binds"); (case q56H => k_extra "z hashnew"); (case q56ot => assumption); (case q56U => k_updF); (case q56z => omega); (case q56r => k_room); (case q56lo => assumption); (case q56s1 => omega); (case q56s2 => omega)); k_extra "z nm new"; (try k_sweep))))
  (k_with "z nm blanks" => ((intro lK vsK nK h' tk' oK TK F' N' nlK exK htK blK; (try dsimp only at N' nlK); (have hlK := Ext.len exK))))
  (k_with "call ref" => ((k_here; (with_reducible show wpAny _ _ (call (Value.ref 165) _ _) _ _ _); k_dflt (refine' call_blanks (d := 256) ?q57B ?q57F ?q57X ?q57T ?q57N ?q57c1 ?q57c2 ?q57c3 ?q57c4 ?q57H ?q57ot ?q57U ?q57z ?q57r ?q57dd ?q57lo ?_; (case q57F => k_asm); (case q57N => k_asm); (case q57B => k_asm); (case q57X => k_asm); (case q57T => k_asm); (case q57c1 => exact rfl); (case q57c2 => exact rfl); (case q57c3 => exact rfl); (case q57c4 => exact rfl); (case q57H => k_extra "z hash"); (case q57ot => assumption); (case q57U => k_updF); (case q57z => omega); (case q57r => k_room); (case q57dd => omega); (case q57lo => assumption)); k_extra "z nm blanks"; (try k_sweep))))
  (k_with "z nm blk" => (intro bK uK hbK))
  (k_with "subscriptTail" => ((k_here; (with_reducible show wpAny _ _ (subscriptTail _ _ (Value.ref _) (Value.int _ _)) _ _ _); k_dflt (refine' item_blk (d := 256) ?q58N ?q58m ?q58b ?q58d ?q58n ?_; (case q58N => k_asm); (case q58m => k_mem); (case q58b => assumption); (case q58d => omega); (case q58n => omega)); k_extra "z nm blk")))
  (k_with "compareOp NotEq bytes bytes" => ((k_here; refine stop ?_)))
  (k_with "z nm sc" => (intro hsc9 tkSc))
  (k_with "truthy ref" => ((k_here; k_dflt (refine' script_true ?q59F ?q59l ?q59i ?q59n ?_ ?_; (case q59F => k_asm); (case q59l => assumption); (case q59i => assumption); (case q59n => assumption)); (all_goals k_extra "z nm sc"))))
  (k_with "z nm it" => (intro nIt uIt))
  (k_with "subscriptTail" => ((k_here; (with_reducible show wpAny _ _ (subscriptTail _ _ (Value.ref _) (Value.int 0 _)) _ _ _); k_dflt (refine' script_item ?q60F ?q60l ?q60i ?q60n ?_; (case q60F => k_asm); (case q60l => assumption); (case q60i => assumption); (case q60n => assumption)); k_extra "z nm it")))
  (k_with "z upd3" => (first | exact Upd3.nil | (refine' Upd3.one ?q61a; (case q61a => k_extra "z upd3")) | (refine' Upd3.two ?q61a; (case q61a => k_extra "z upd3")) | (refine' Upd3.three ?q61a; (case q61a => k_extra "z upd3")) | (refine' Upd3.skip ?q61n ?q61a; (case q61n => (refine ⟨?_, ?_, ?_⟩ <;> k_ne)); (case q61a => k_extra "z upd3"))))
  (k_with "z upd2" => (first | exact Upd2.nil | (refine' Upd2.one ?q62a; (case q62a => k_extra "z upd2")) | (refine' Upd2.two ?q62a; (case q62a => k_extra "z upd2")) | (refine' Upd2.skip ?q62n ?q62a; (case q62n => (refine ⟨?_, ?_⟩ <;> k_ne)); (case q62a => k_extra "z upd2")) | (refine' Upd2.rest ?q62a; (case q62a => assumption))))
  (k_with "k_mem" => (((repeat (first | exact List.Mem.head _ | exact memOf (by with_reducible assumption) | refine' List.Mem.tail _ ?_)); done)))
  (k_with "k_ne" => (first | (refine PySem.W.neN ?_; (try dsimp only); first | exact Apx.l (by with_reducible assumption) (by k_mem) | exact Apx.r (by with_reducible assumption) (by k_mem) | exact AllNe.at1 (by with_reducible assumption) (by k_mem) | exact AllNe.at2 (by with_reducible assumption) (by k_mem) | exact Off.at1 (by with_reducible assumption) (by with_reducible assumption) (by k_mem) | exact Off.at2 (by with_reducible assumption) (by with_reducible assumption) (by k_mem) | with_reducible assumption | omega)))
  (k_with "k_all" => (first | exact List.forall_mem_nil _ | exact Off.all (by with_reducible assumption) (by k_mem) | (refine' List.forall_mem_cons.mpr ⟨?q65a, ?q65b⟩; (case q65a => k_ne); (case q65b => k_all))))
  (k_with "z sub" => (first | exact Sub.nil _ | (refine' Sub.cons ?q66za ?q66zb; (case q66za => k_mem); (case q66zb => k_extra "z sub")) | (repeat (first | exact Sub.refl _ | refine' Sub.skip ?_))))
  (k_with "exec For Tuple Name cons nil" => (refine stop ?_))
  (k_with "pyIter ref" => (refine stop ?_))
  (k_with "call ref" => ((k_here; (with_reducible show wpAny _ _ (call (Value.ref 184) _ _) _ _ _); refine stop ?_)))
  (k_with "execs cons" => (((with_reducible show wpAny _ _ (execs (Stmt.If _ _ _ ⟨211, _, _, _⟩ :: _) _) _ _ _); refine stop ?_)))
  (k_with "assign Tuple" => ((k_here; (with_reducible show wpAny _ _ (assign (Expr.Tuple _ _ _) _ (Value.ref _)) _ _ _); k_dflt (refine' unpackN_ ?q67F ?q67N ?q67T ?q67k1 ?q67k2 ?q67k3 ?_; (case q67F => with_reducible assumption); (case q67N => with_reducible assumption); (case q67T => exact News.isTup (by with_reducible assumption) (by k_mem)); (case q67k1 => exact rfl); (case q67k2 => exact rfl); (case q67k3 => exact rfl)); intro h' F' N'; (try k_sweep))))
  (k_with "z msub" => (first | exact mnil | (refine' mcons ?q68za ?q68zb; (case q68za => k_mem); (case q68zb => k_extra "z msub"))))
  (k_with "z nm key" => (intro keyK tK tkK hkS hkV))
  (k_with "call builtin:int.to_bytes" => ((k_here; k_dflt (with_unfolding_all refine' to_key ?q69a ?q69b ?_; (case q69a => omega); (case q69b => assumption)); k_extra "z nm key")))
  (k_with "getMethod ref" => ((k_here; (with_reducible show wpAny _ _ (getMethod (Value.ref _) (Str.ofString "get") _) _ _ _); k_dflt (refine' get_dict ?q70N ?q70p ?q70x ?_; (case q70N => k_asm); (case q70p => k_mem); (case q70x => exact IsKB.exact (knd := intKind _ _) (by with_reducible assumption))))))
  (k_with "z nm get" => (intro bG uG tkG hbG))
  (k_with "call builtin:dict.get" => ((k_here; k_dflt (refine' rep_get ?q71N ?q71p ?q71d ?q71lo ?q71r ?q71k ?_; (case q71N => k_asm); (case q71p => k_mem); (case q71d => with_reducible assumption); (case q71lo => with_reducible assumption); (case q71r => with_reducible assumption); (case q71k => with_reducible assumption)); k_extra "z nm get")))
  (k_with "compareOp Eq bytes bytes" => ((k_here; refine eq_nil (by with_reducible assumption) ?_)))
  (k_with "compareOp NotEq bytes bytes" => ((k_here; refine ne_nil (by with_reducible assumption) ?_)))
  (k_with "z nm br" => ((first | ((with_reducible show BadK _); unfold BadK; intro eP gP hP tkP hpP RP UP FP; (try dsimp only)) | (intro qB bvB bsB nB h' tkB F' N' nqB hoB hsB hpB; (try k_sweep)))))
  (k_with "call ref" => ((k_here; (with_reducible show wpAny _ _ (call (Value.ref 81) [Value.ref _, Value.bytes _ _]) _ _ _); k_dflt (refine' call_branch ?q72B ?q72F ?q72X ?q72T ?q72XB ?q72TB ?q72D ?q72N ?q72c1 ?q72c2 ?q72c3 ?q72c4 ?q72m1 ?q72m2 ?q72m3 ?q72ne ?q72r ?q72s1 ?q72s2 ?q72ky ?q72hp ?q72hp2 ?q72db ?q72hin ?_ ?_; (case q72F => k_asm); (case q72N => k_asm); (case q72B => k_asm); (case q72X => k_asm); (case q72T => k_asm); (case q72D => exact ktsDicts_nil); (case q72XB => assumption); (case q72TB => assumption); (case q72c1 => exact rfl); (case q72c2 => exact rfl); (case q72c3 => exact rfl); (case q72c4 => exact rfl); (case q72m1 => k_mem); (case q72m2 => k_mem); (case q72m3 => k_mem); (case q72ne => (refine ⟨?_, ?_, ?_⟩ <;> k_ne)); (case q72r => k_room); (case q72s1 => omega); (case q72s2 => omega); (case q72ky => with_reducible assumption); (case q72hp => with_reducible assumption); (case q72hp2 => with_reducible assumption); (case q72db => with_reducible assumption); (case q72hin => with_reducible assumption)); (all_goals (k_extra "z nm br")))))
  (k_with "call ref" => ((k_here; (with_reducible show wpAny _ _ (call (Value.ref 177) _ _) _ _ _); refine stop ?_)))
  (k_with "execs cons" => (((with_reducible show wpAny _ _ (execs (Stmt.For _ _ _ _ ⟨208, _, _, _⟩ :: _) _) _ _ _); refine stop ?_)))
  (k_with "compareOp NotEq ref ref" => ((k_here; (with_reducible show wpAny _ _ (compareOp CmpOp.NotEq (Value.ref _) (Value.ref _)) _ _ _); refine stop ?_)))
  (k_with "subscriptTail" => ((k_here; (with_reducible show wpAny _ _ (subscriptTail _ _ (Value.ref _) (Value.int 1 _)) _ _ _); k_dflt (refine' pair1 ?q73N ?q73m ?_; (case q73N => with_reducible assumption); (case q73m => k_mem); k_whole))))
  (k_with "subscriptTail" => ((k_here; (with_reducible show wpAny _ _ (subscriptTail _ _ (Value.ref _) (Value.int 0 _)) _ _ _); k_dflt (refine' pair0 ?q74N ?q74m ?_; (case q74N => with_reducible assumption); (case q74m => k_mem); k_whole))))
  (k_with "z nm num" => ((intro kN uN hN tkN F' N' hkN; (try k_sweep))))
  (k_with "call ref" => ((k_here; (with_reducible show wpAny _ _ (call (Value.ref 158) _ _) _ _ _); k_dflt (refine' call_num ?q75B ?q75F ?q75X ?q75T ?q75N ?q75c1 ?q75c2 ?q75c3 ?q75c4 ?q75r ?q75s1 ?q75s2 ?_; (case q75F => k_asm); (case q75N => k_asm); (case q75B => k_asm); (case q75X => k_asm); (case q75T => k_asm); (case q75c1 => exact rfl); (case q75c2 => exact rfl); (case q75c3 => exact rfl); (case q75c4 => exact rfl); (case q75r => k_room); (case q75s1 => omega); (case q75s2 => omega)); k_extra "z nm num")))
  (k_with "truthy ref" => ((k_here; k_dflt (refine' script_true ?q76F ?q76l ?q76i ?q76n ?_ ?_; (case q76F => k_asm); (case q76l => with_reducible assumption); (case q76i => with_reducible assumption); (case q76n => with_reducible assumption)); (all_goals k_extra "z nm sc"))))
  (k_with "subscriptTail" => ((k_here; (with_reducible show wpAny _ _ (subscriptTail _ _ (Value.ref _) (Value.int 0 _)) _ _ _); k_dflt (refine' script_item ?q77F ?q77l ?q77i ?q77n ?_; (case q77F => k_asm); (case q77l => with_reducible assumption); (case q77i => with_reducible assumption); (case q77n => with_reducible assumption)); k_extra "z nm it")))
  (k_with "execs cons" => (((with_reducible show wpAny _ _ (execs (Stmt.Try _ _ _ _ ⟨201, _, _, _⟩ :: _) _) _ _ _); refine stop ?_)))
  (k_with "exec For Name BinOp cons nil" => (refine stop ?_))
  (k_with "exec For Name BinOp" => (refine stop ?_))
  (k_with "eval ListComp" => (refine stop ?_))
  (k_with "CompSrc" => (refine stop ?_))
  (k_with "execs cons" => (((with_reducible show wpAny _ _ (execs (Stmt.Assign _ _ ⟨200, _, _, _⟩ :: _) _) _ _ _); refine stop ?_)))
  (k_with "pyIter ref" => (refine stop ?_))
  (k_with "call ref" => ((k_here; (with_reducible show wpAny _ _ (call (Value.ref 184) _ _) _ _ _); k_dflt (refine' call_lawget0 ?q78B ?q78F ?q78X ?q78T ?q78XB ?q78TB ?q78N ?q78c1 ?q78c2 ?q78c3 ?q78c4 ?q78m1 ?q78m2 ?q78m3 ?q78ne ?q78r ?q78s1 ?q78s2 ?q78ky ?q78hp ?q78hp2 ?q78db ?q78hin ?q78due ?_; (case q78F => k_asm); (case q78N => k_asm); (case q78B => k_asm); (case q78X => k_asm); (case q78T => k_asm); (case q78XB => assumption); (case q78TB => assumption); (case q78c1 => exact rfl); (case q78c2 => exact rfl); (case q78c3 => exact rfl); (case q78c4 => exact rfl); (case q78m1 => k_mem); (case q78m2 => k_mem); (case q78m3 => k_mem); (case q78ne => (refine ⟨?_, ?_, ?_⟩ <;> k_ne)); (case q78r => k_room); (case q78s1 => omega); (case q78s2 => omega); (case q78ky => with_reducible assumption); (case q78hp => with_reducible assumption); (case q78hp2 => with_reducible assumption); (case q78db => with_reducible assumption); (case q78hin => with_reducible assumption); (case q78due => with_reducible assumption)); intro h' tk' F' N'; (try k_sweep))))
  (k_with "call ref" => ((k_here; (with_reducible show wpAny _ _ (call (Value.ref 102) _ _) _ _ _); k_dflt (refine' call_exists0 ?q79B ?q79F ?q79X ?q79T ?q79XB ?q79TB ?q79N ?q79c1 ?q79c2 ?q79c3 ?q79c4 ?q79m1 ?q79m2 ?q79m3 ?q79ne ?q79r ?q79s1 ?q79s2 ?q79ky ?q79hp ?q79hp2 ?q79db ?q79hin ?_; (case q79F => k_asm); (case q79N => k_asm); (case q79B => k_asm); (case q79X => k_asm); (case q79T => k_asm); (case q79XB => assumption); (case q79TB => assumption); (case q79c1 => exact rfl); (case q79c2 => exact rfl); (case q79c3 => exact rfl); (case q79c4 => exact rfl); (case q79m1 => k_mem); (case q79m2 => k_mem); (case q79m3 => k_mem); (case q79ne => (refine ⟨?_, ?_, ?_⟩ <;> k_ne)); (case q79r => k_room); (case q79s1 => omega); (case q79s2 => omega); (case q79ky => with_reducible assumption); (case q79hp => with_reducible assumption); (case q79hp2 => with_reducible assumption); (case q79db => with_reducible assumption); (case q79hin => with_reducible assumption)); intro h' tk' F' N'; (try k_sweep))))
  (k_with "call ref" => ((k_here; (with_reducible show wpAny _ _ (call (Value.ref 137) _ _) _ _ _); k_dflt (refine' call_contains0 ?q80B ?q80F ?q80X ?q80T ?q80XB ?q80TB ?q80N ?q80c1 ?q80c2 ?q80c3 ?q80c4 ?q80m1 ?q80m2 ?q80m3 ?q80ne ?q80r ?q80s1 ?q80s2 ?q80ky ?q80hp ?q80hp2 ?q80db ?q80hin ?_; (case q80F => k_asm); (case q80N => k_asm); (case q80B => k_asm); (case q80X => k_asm); (case q80T => k_asm); (case q80XB => assumption); (case q80TB => assumption); (case q80c1 => exact rfl); (case q80c2 => exact rfl); (case q80c3 => exact rfl); (case q80c4 => exact rfl); (case q80m1 => k_mem); (case q80m2 => k_mem); (case q80m3 => k_mem); (case q80ne => (refine ⟨?_, ?_, ?_⟩ <;> k_ne)); (case q80r => k_room); (case q80s1 => omega); (case q80s2 => omega); (case q80ky => with_reducible assumption); (case q80hp => with_reducible assumption); (case q80hp2 => with_reducible assumption); (case q80db => with_reducible assumption); (case q80hin => with_reducible assumption)); intro h' tk' F' N'; (try k_sweep))))
  (k_with "compareOp NotEq bool bool" => ((k_here; refine ne_bb ?_)))
  trivial
section
variable {prog : Program} {w : World} {g : Heap} {L fn : Addr} {s : Shared} {h : Heap} {tk : Nat} {m : Str → Option Value} {Q : Flow → Shared → Prop} {E1 : Value → Shared → Prop} {fa x dx da ta ca c5 sc pa bl ho fo : Addr} {ofa oca ocl ot odb o1 o2 o4 oh ofd : Obj} {ps : Array Value}
  {p : Program} {loose : List Str} {mean : ExcName → Option Value} {mg mb : Str → Option Value} {t1 t2 t3 t4 t5 t6 u1 u2 u3 u6 us ud ut : Tok} {size np nv : Nat} {dflt root : Array UInt8} {T : List Oct} {D : List (Oct × Oct)} {Dh : List (Int × Oct)} {items ws vs : List Value} {ns : List Int} {tl keys : List (Addr × Obj)} {f : Nat → Oct} {xs : FdX}
set_option maxHeartbeats 4000000 in
theorem seg_each (B : Below callerA g [] g) (X : (hd0.heap_1 w.params).In g) (TT : Top p loose mean mg mb g) (F : Fr g L h m) (hsc : g.IsList sc items.toArray) (hints : IntsAre items ns) (hns : ns.length ≤ 63)
    (N : News g L h ((x, instObj 140 dx) :: (dx, dictOf (treeEs w t1 t2 t3 t4 t5 t6 (.int size u1) (.int (8 * size : Int) u2) (.bytes dflt u3) (.ref fa) (.ref da) (.bytes root u6)) 6) :: (da, odb) :: (ho, oh) :: (fo, ofd) :: (pa, listOf ws.toArray np) :: (bl, listOf vs.toArray nv) :: (fa, ofa) :: (ca, oca) :: (c5, ocl) :: (ta, ot) :: (L + 1 + 1 + 1 + 1, o4) :: (L + 1 + 1, o2) :: (L + 1, o1) :: (186, tabObj ps) :: tl))
    (hA : ApL [x, dx, da, ho, fo, pa, bl, fa, ca, c5, ta, L + 1 + 1 + 1 + 1, L + 1 + 1, L + 1, 186]) (hOff : Off tl [x, dx, da, ho, fo, pa, bl, fa, ca, c5, ta, L + 1 + 1 + 1 + 1, L + 1 + 1, L + 1, 186]) (H : LawH ofa oca ocl ca c5 ta) (hot : IsTbl prog w ot T) (hsz : T.length ≤ 1500) (lo : (ta == sysModules) = false) (loh : (ho == sysModules) = false) (lof : (fo == sysModules) = false)
    (hdb : IsKB (bytesKind prog w) odb D) (hszD : D.length ≤ 2000) (ok : DbOk T D) (hin : In T D (8 * size) f root.toList) (hh : IsKB (intKind prog w) oh Dh) (hrep : Rep Dh f dflt.toList 0 (8 * size)) (hfd : FdObj prog w ofd xs) (hkf : KeyFrom prog w [] keys xs) (hks : ∀ p ∈ keys, p ∈ tl) (cov : Cov T dflt.toList xs f 0 (8 * size))
    (hpast : ∀ v ∈ ws, PastIt T D size tl v) (hlast : LastOk prog w T D size dflt.toList ws tl o4) (hblk : Blk T dflt.toList (8 * size + 1) vs)
    (hd1 : o1.data = .cell (some (.int ((8 * size : Nat) : Int) ut))) (hd2 : o2.data = .cell (some (.ref ho))) (hwl : ws.length ≤ 10)
    (hs1 : 1 ≤ size) (hs2 : size ≤ 2) (hm1 : m "_law_hash" = some (.ref fa)) (hm2 : m "tree" = some (.ref x)) (hm3 : m "script" = some (.ref sc)) (hm4 : m "past" = some (.ref pa)) (hm5 : m "size" = some (.int (size : Int) us)) (hm6 : m "default" = some (.bytes dflt ud)) (hm7 : m "blanks" = some (.ref bl)) (hm8 : m "found" = some (.ref fo))
    (hQ : ∀ h' tk', (∀ b o, g.get? b = some o → h'.get? b = some o) → GrownAt 186 h' → Q (.ret (.bool true)) { s with heap := h', toks := tk' }) :
    wpAny (model prog w) (callerA.deeper (lawEnv L fn)) (execs (lawBody.drop 16) (lawEnv L fn)) Q (fun e s' => wpAny (model prog w) (callerA.deeper (lawEnv L fn)) (leaving (lawEnv L fn) e) (fun _ s'' => E1 e s'') (fun e' s'' => E1 e' s'') s') { s with heap := h, toks := tk } := by
  conv in (execs (List.drop 16 lawBody) _) => arg 1; whnf
  let od9 : Obj := dictOf (treeEs w t1 t2 t3 t4 t5 t6 (.int size u1) (.int (8 * size : Int) u2) (.bytes dflt u3) (.ref fa) (.ref da) (.bytes root u6)) 6
  have N : News g L h ((x, instObj 140 dx) :: (dx, od9) :: (da, odb) :: (ho, oh) :: (fo, ofd) :: (pa, listOf ws.toArray np) :: (bl, listOf vs.toArray nv) :: (fa, ofa) :: (ca, oca) :: (c5, ocl) :: (ta, ot) :: (L + 1 + 1 + 1 + 1, o4) :: (L + 1 + 1, o2) :: (L + 1, o1) :: (186, tabObj ps) :: tl) := N
  have hA0 := hA
  obtain ⟨a1, a2, a3, a4, a5, a6, a7, a8, a9, a10, a11, a12, a13, a14, _⟩ := hA
  k_steps
  unfold Stop
  refine For_invV g (by rfl) (by rfl) ?_
  k_steps
  unfold Stop
  with_reducible rename Fr _ _ _ _ => F1
  with_reducible rename News _ _ _ _ => N1
  refine LCg.ListComp_U F1 (by with_unfolding_all rfl) (by decide) (by rfl) (by decide) (by rfl) ?_
  k_steps
  unfold Stop
  with_reducible rename Fr _ _ _ _ => F2
  with_reducible rename News _ _ _ _ => N2
  with_reducible rename IntsAre _ (List.take _ _) => hIk
  refine LCg.CompSrc.ledger rfl F2 N2 (by k_mem) ?_ fun g' => ?_
  · have := hIk.length
    rw [sizeLine_eq]; simp; omega
  refine keys_rest (bnd := 2 ^ (8 * size)) hIk ?_ (.inr ⟨_, .head _, rfl, _, rfl⟩) ?_
  · intro k t I oI C oC D1 m₂ ys h3 tk3 E3 hC hx F3 N3 off3 ne3 hS3
    clear F2 N2
    k_steps
    all_goals first | assumption | exact ⟨kN, uN, rfl, hkN⟩
  · intro ys hyl hyk D1 h3 tk3 F3 N3 off1
    clear F2 N2
    have hys : ys.length ≤ 100 := by
      have := hIk.length
      rw [hyl, this]; simp; omega
    refine add_lists (vs := [.int 0 _, .int 3 _, .int 129 _]) (ws := ys) F3 N3 ⟨_, (N3 _ (.tail _ (.tail _ (.head _)))).1, rfl, _, by with_unfolding_all rfl⟩ ⟨_, (N3 _ (.head _)).1, rfl, _, rfl⟩ (fun h4 F4 N4 => ?_) (by rw [sizeLine_eq]; simp; omega)
    refine pick1 N4 fun D2 hD2 => ?_
    subst hD2
    obtain ⟨q1, q2, q3, N5⟩ : ∃ q1 q2 q3, News g L h4 ((h3.objs.size, listOf ([Value.int 0 q1, .int 3 q2, .int 129 q3] ++ ys).toArray 0) :: (x, instObj 140 dx) :: (dx, od9) :: (da, odb) :: (ho, oh) :: (fo, ofd) :: (pa, listOf ws.toArray np) :: (bl, listOf vs.toArray nv) :: (fa, ofa) :: (ca, oca) :: (c5, ocl) :: (ta, ot) :: (L + 1 + 1 + 1 + 1, o4) :: (L + 1 + 1, o2) :: (L + 1, o1) :: (186, tabObj ps) :: tl) := ⟨_, _, _, newsSub N4 (by k_extra "z sub")⟩
    clear N4
    k_steps
    unfold Stop
    refine iter_lst (l := h3.objs.size) (fun i m' nx => nx = (h3.objs.size, listOf ([Value.int 0 q1, .int 3 q2, .int 129 q3] ++ ys).toArray 0) :: (x, instObj 140 dx) :: (dx, od9) :: (da, odb) :: (ho, oh) :: (fo, ofd) :: (pa, listOf ws.toArray np) :: (bl, listOf vs.toArray nv) :: (fa, ofa) :: (ca, oca) :: (c5, ocl) :: (ta, ot) :: (L + 1 + 1 + 1 + 1, o4) :: (L + 1 + 1, o2) :: (L + 1, o1) :: (186, tabObj ps) :: tl ∧
      m' "_law_hash" = some (.ref fa) ∧ m' "tree" = some (.ref x) ∧ m' "script" = some (.ref sc) ∧ m' "past" = some (.ref pa) ∧ m' "size" = some (.int (size : Int) us) ∧ m' "default" = some (.bytes dflt ud) ∧ m' "blanks" = some (.ref bl) ∧ m' "found" = some (.ref fo)) rfl F4 N5 (.head _) ⟨rfl, hm1, hm2, hm3, hm4, hm5, hm6, hm7, hm8⟩ ?_ ?_ ?_
    · rintro i m' nx ⟨rfl, _⟩
      exact .head _
    · intro i v m₁ news₁ h5 tk5 I oI hi hv hJ hne9 F6 N6
      refine wpGen fun P9 E9 hP9 hE9 => ?_
      try dsimp only
      obtain ⟨rfl, hn1, hn2, hn3, hn4, hn5, hn6, hn7, hn8⟩ := hJ
      obtain ⟨k, t, rfl, hk⟩ := num3 hs1 hyk v (List.mem_of_getElem? hv)
      clear F4 N5 F3 N3
      k_steps
      with_reducible rename Fr _ _ _ _ => F9
      with_reducible rename News _ _ _ _ => N9
      exact hP9 _ _ (show TurnNext _ _ _ _ _ _ _ from ⟨_, _, _, (h3.objs.size, listOf ([Value.int 0 q1, .int 3 q2, .int 129 q3] ++ ys).toArray 0) :: (x, instObj 140 dx) :: (dx, od9) :: (da, odb) :: (ho, oh) :: (fo, ofd) :: (pa, listOf ws.toArray np) :: (bl, listOf vs.toArray nv) :: (fa, ofa) :: (ca, oca) :: (c5, ocl) :: (ta, ot) :: (L + 1 + 1 + 1 + 1, o4) :: (L + 1 + 1, o2) :: (L + 1, o1) :: (186, tabObj ps) :: tl, rfl, F9, N9, hne9, rfl, hn1, hn2, hn3, hn4, hn5, hn6, hn7, hn8⟩)
    · intro m₁ news₁ h5 tk5 hJ F6 N6
      obtain ⟨rfl, hn1, hn2, hn3, hn4, hn5, hn6, hn7, hn8⟩ := hJ
      clear F4 N5 F3 N3
      k_steps
      unfold Stop
      with_reducible rename Fr _ _ _ _ => F9
      with_reducible rename News _ _ _ _ => N9
      exact seg_asked B X TT F9 hsc hints hns (newsSub N9 (Sub.skip (Sub.refl _))) hA0 hOff H hot hsz lo loh lof hdb hszD ok hin hh hrep hfd hkf hks cov hpast hlast hblk hd1 hd2 hwl hs1 hs2 hn1 hn2 hn3 hn4 hn5 hn6 hn7 hn8 hQ
end
end -- S31
section -- S32a
section
variable {prog : Program} {w : World} {A : Around} {s : Shared} {g : Heap} {E : Value → Shared → Prop} {L : Addr} {m : Str → Option Value} {base : Heap} {fr : List Env} {env : Env} {news : List (Addr × Obj)}
  {p : Program} {loose : List Str} {mean : ExcName → Option Value} {mg mb : Str → Option Value} {A₀ : Around} {Q : Value → Shared → Prop}
theorem call_topA {d : Nat} (ih : TopC prog w d) {fa ta bl fo ho : Addr} {ot ofd oh : Obj} {T : List Oct} {D : List (Int × Oct)} {xs : FdX} {f : Nat → Oct} {dflt : Oct} {low nb n : Nat} {vs : List Value} {t1 t2 : Tok} {gn : Obj → Obj → List (Addr × Obj)}
    (B : Below A₀ base fr g) (F : Fr g L s.heap m) (X : (hd0.heap_1 w.params).In g) (TT : Top p loose mean mg mb g) (N : News g L s.heap news) (hA : A.frames = some (env :: fr)) (hf : env.frame = some L) (hke : env.scope.kind = .function) (hh : A.handled = none)
    (m1 : (ho, oh) ∈ news) (m2 : (bl, listOf vs.toArray n) ∈ news) (m3 : (fo, ofd) ∈ news) (m4 : (ta, ot) ∈ news) (U : Upd2 fo ta ofd ot news gn)
    (hne : @Ne Nat ho bl ∧ @Ne Nat ho fo ∧ @Ne Nat ho ta ∧ @Ne Nat bl fo ∧ @Ne Nat bl ta ∧ @Ne Nat fo ta) (hroom : A.depth + 4 * d + 10 < recursionLimit) (hun : A.units + 4 * d + 20 < cLine)
    (hD : IsKB (intKind prog w) oh D) (hDl : D.length ≤ 100) (lo1 : (ho == sysModules) = false) (hrep : Rep D f dflt low d) (hal : low % 2 ^ d = 0) (hblk : Blk T dflt nb vs) (hdn : d < nb) (hnb : nb ≤ 257)
    (hfd : FdObj prog w ofd xs) (hkeys : KeysAt prog w (hideAll s.heap [ho, bl, fo, ta]) xs) (habs : Abs xs low d) (hxl : xs.length + D.length * (d + 1) ≤ 100000) (H : HashFn (hideAll s.heap [ho, bl, fo, ta]) fa ta) (hot : IsTbl prog w ot T) (hsz : T.length + D.length * (d + 1) ≤ 100000) (lo : (ta == sysModules) = false)
    (h : ∀ b t xs' keys ofd' ot' T' h' tk', Fr g L h' m → News g L h' (gn ofd' ot' ++ keys) → (∀ p ∈ keys, AllNe p.1 news) → KeyFrom prog w xs keys xs' → FdObj prog w ofd' xs' →
      Cov T' dflt xs' f low d → SameOut xs xs' low d → Ext (D.length * (d + 1)) T T' → IsTbl prog w ot' T' → Tr T' d (sub f low) b.toList → b.toList.length = 32 → xs'.length ≤ xs.length + D.length * (d + 1) → Q (.bytes b t) { s with heap := h', toks := tk' }) :
    wpAny (model prog w) A (call (.ref 170) [.ref ho, .int (low : Int) t1, .int (d : Int) t2, .ref bl, .ref fa, .ref fo]) Q E s := by
  have hl : ∀ q ∈ topLed ho bl fo ta oh vs n ofd ot, q ∈ news := led4 m1 m2 m3 m4
  obtain ⟨S, hL⟩ := site_of B F X TT (led := _) (fun q hq => N q (hl q hq)) hA hf hke hh
  refine wpAny_call (ih S hL hne hroom hun hD hDl lo1 hrep hal hblk hdn hnb hfd hkeys habs hxl H hot hsz lo fun b t xs' keys ofd' ot' T' h' tk' k kl kk e1 e2 e3 e4 e5 e6 e7 e8 => ?_)
  have hho := kl (ho, oh) (.head _)
  have hbl := kl (bl, listOf vs.toArray n) (.tail _ (.head _))
  have hfo := kl (fo, ofd') (.tail _ (.tail _ (.head _)))
  have hta := kl (ta, ot') (.tail _ (.tail _ (.tail _ (.head _))))
  have hcf : ofd'.cls = .type "dict" := let ⟨_, _, hx, _⟩ := e2; hx.1
  have hct : ot'.cls = .type "dict" := IsKB.cls e6
  have nek : ∀ p ∈ keys, @Ne Nat p.1 fo ∧ @Ne Nat p.1 ta := fun p hp => by
    obtain ⟨k1, _, k3⟩ := kk p hp
    refine ⟨fun e => ?_, fun e => ?_⟩
    · have e' : p.1 = fo := e
      rw [e', hfo] at k1
      rw [← Option.some.inj k1, hcf] at k3
      simp at k3
    · have e' : p.1 = ta := e
      rw [e', hta] at k1
      rw [← Option.some.inj k1, hct] at k3
      simp at k3
  have nall : ∀ p ∈ keys, AllNe p.1 news := fun p hp => allNe_of fun q hq e => by
    obtain ⟨k1, k2, k3⟩ := kk p hp
    have e' : p.1 = q.1 := e.symm
    by_cases hm : q.1 ∈ (topLed ho bl fo ta oh vs n ofd ot).map (·.1)
    · simp only [topLed, List.map_cons, List.map_nil, List.mem_cons, List.not_mem_nil, or_false] at hm
      rcases hm with e2 | e2 | e2 | e2
      · rw [e', e2, hho] at k1
        rw [← Option.some.inj k1, IsKB.cls hD] at k3
        simp at k3
      · rw [e', e2, hbl] at k1
        rw [← Option.some.inj k1] at k3
        simp at k3
      · exact (nek p hp).1 (e'.trans e2)
      · exact (nek p hp).2 (e'.trans e2)
    · rw [e', hideAll_get _ (N q hq).1 hm] at k2; cases k2
  refine h b t xs' keys ofd' ot' T' h' tk' (fr_back F (fun q hq => N q (hl q hq)) k) (fun a ha => ?_) nall e1 e2 e3 e4 e5 e6 e7 e7.len e8
  rcases List.mem_append.mp ha with ha | ha
  · refine U.all (P := fun p => h'.get? p.1 = some p.2 ∧ p.1 ≠ L ∧ g.get? p.1 = none) (fun q hq n1 n2 => ⟨?_, (N q hq).2⟩) ⟨hfo, (N _ m3).2⟩ ⟨hta, (N _ m4).2⟩ a ha
    by_cases hm : q.1 ∈ (topLed ho bl fo ta oh vs n ofd ot).map (·.1)
    · simp only [topLed, List.map_cons, List.map_nil, List.mem_cons, List.not_mem_nil, or_false] at hm
      rcases hm with e | e | e | e
      · have z := (N q hq).1
        rw [e, (N _ m1).1] at z
        rw [e, hho, Option.some.inj z]
      · have z := (N q hq).1
        rw [e, (N _ m2).1] at z
        rw [e, hbl, Option.some.inj z]
      · exact absurd e n1
      · exact absurd e n2
    · exact k _ _ (hideAll_get _ (N q hq).1 hm)
  · obtain ⟨k1, k2, k3⟩ := kk a ha
    refine ⟨k1, fun e => ?_, ?_⟩
    · obtain ⟨oL, es, ep, hLo, hd', _⟩ := F.ns
      have nL : L ∉ (topLed ho bl fo ta oh vs n ofd ot).map (·.1) := fun q => by
        obtain ⟨p, hp, e⟩ := List.mem_map.mp q
        exact (N p (hl p hp)).2.1 e
      rw [e, hideAll_get _ hLo nL] at k2
      cases k2
    · cases q : g.get? a.1 with
      | none => rfl
      | some o => rw [hideAll_get _ (F.keep _ _ q) (hide_notin N hl (by rw [q]; simp))] at k2; cases k2
end
theorem AllLt.all {d : Addr} : ∀ {l : List (Addr × Obj)}, AllLt d l → ∀ p ∈ l, p.1 < d
  | [], _, _, h => nomatch h
  | _ :: _, x, p, h => by
    rcases List.mem_cons.mp h with rfl | h
    · exact x.1
    · exact AllLt.all x.2 p h
theorem Off.append {t1 t2 : List (Addr × Obj)} {l : List Nat} (h1 : Off t1 l) (h2 : Off t2 l) : Off (t1 ++ t2) l := fun p hp => (List.mem_append.mp hp).elim (h1 p) (h2 p)
theorem Off.cons {tl : List (Addr × Obj)} {l : List Nat} {a : Nat} (h : ∀ p ∈ tl, @Ne Nat p.1 a) (k : Off tl l) : Off tl (a :: l) := fun p hp b hb => by
  rcases List.mem_cons.mp hb with rfl | hb
  · exact h p hp
  · exact k p hp b hb
theorem off_keys {keys news : List (Addr × Obj)} {l : List Nat} (h : ∀ p ∈ keys, AllNe p.1 news) (m : ∀ a : Nat, a ∈ l → ∃ o, ((a : Addr), o) ∈ news) : Off keys l := fun p hp a ha => by
  obtain ⟨o, ho⟩ := m a ha
  exact fun e => (h p hp).all _ ho e.symm
theorem mex_nil {news : List (Addr × Obj)} : ∀ a : Nat, a ∈ ([] : List Nat) → ∃ o, ((a : Addr), o) ∈ news := fun a h => by cases h
theorem mex_cons {news : List (Addr × Obj)} {b : Nat} {o : Obj} {r : List Nat} (h : ((b : Addr), o) ∈ news) (k : ∀ a : Nat, a ∈ r → ∃ o, ((a : Addr), o) ∈ news) : ∀ a : Nat, a ∈ b :: r → ∃ o, ((a : Addr), o) ∈ news := fun a ha => by
  rcases List.mem_cons.mp ha with rfl | ha
  · exact ⟨o, h⟩
  · exact k a ha
end -- S32a
section -- S33
theorem lines_s33_1 : True := by
  w_top off
  k_with_none
  (k_with "execs cons" => (((with_reducible show wpAny _ _ (execs (Stmt.Assign _ _ _ :: _) _) _ _ _); refine execsGen fun P8 hP8 => ?_)))
  (k_with "execs cons" => (((with_reducible show wpAny _ _ (execs (Stmt.Expr _ _ :: _) _) _ _ _); refine execsGen fun P8 hP8 => ?_)))
  (k_with "execs cons" => (((with_reducible show wpAny _ _ (execs (Stmt.AugAssign _ _ _ _ :: _) _) _ _ _); refine execsGen fun P8 hP8 => ?_)))
  (k_with "FinQ" => ((refine finOut (by with_reducible assumption) ?_; (try dsimp only))))
  (k_with "exec Try" => (((with_reducible show wpAny _ _ (exec (Stmt.Try _ (_ :: _) _ [] _) _) _ _ _); refine wpAny_Try_except ?_)))
  (k_with "eval Name" => ((k_here; k_dflt (refine' nameX_L ?q10F ?q10v ?_ ?q10a ?q10b; (case q10a => rfl); (case q10b => rfl); (case q10F => k_asm); (case q10v => assumption); k_whole))))
  (k_with "k_ne" => (first | (refine PySem.W.neN ?_; (try dsimp only); first | exact Apx.l (by with_reducible assumption) (by k_mem) | exact Apx.r (by with_reducible assumption) (by k_mem) | exact AllNe.at1 (by with_reducible assumption) (by k_mem) | exact AllNe.at2 (by with_reducible assumption) (by k_mem) | omega)))
  (k_with "nm_c0" => ((intro hC F' N'; (try dsimp only at N'); (try k_sweep))))
  (k_with "noteFrame ref" => ((k_here; (first
  | (k_dflt (refine' catch0 (mean := _) ?q44A ?q44R ?q44F ?q44U ?q44X ?q44T ?q44c ?q44e ?_ ?q44hE ?q44hk ?q44hx ?q44hd; (case q44R => assumption); (case q44A => exact rfl); (case q44F => assumption); (case q44U => assumption); (case q44X => assumption); (case q44T => assumption)))
  | (k_dflt (refine' catch0 (mean := _) ?q44A ?q44R ?q44F ?q44U ?q44X ?q44T ?q44c ?q44e ?_ ?q44hE ?q44hk ?q44hx ?q44hd; (case q44R => exact RaisedS.toSN (by assumption)); (case q44A => exact rfl); (case q44F => assumption); (case q44U => assumption); (case q44X => assumption); (case q44T => assumption)))); (case q44c => kts_nm); (case q44e => kts_exm); (case q44hk => exact rfl); (case q44hx => exact rfl); (case q44hd => decide); (case q44hE => with_unfolding_all passes_own); k_extra "nm_c0")))
  (k_with "InitBack" => ((dsimp only [InitBack])))
  (k_with "loadName" => ((k_here; k_dflt (refine' loadX ?q45F ?q45v ?_ ?q45a ?q45b; (case q45a => rfl); (case q45b => rfl); (case q45F => k_asm); (case q45v => first | assumption | exact rfl); k_whole))))
  (k_with "z apx" => (first | exact Apx.nil _ | (refine' Apx.cons ?q50za ?q50zb; (case q50za => k_ne); (case q50zb => k_extra "z apx"))))
  (k_with "z apl" => (first | exact True.intro | (refine' And.intro ?q51za ?q51zb; (case q51za => k_extra "z apx"); (case q51zb => k_extra "z apl"))))
  (k_with "z notin" => (first | exact notin_nil | (refine' notin_cons ?q52za ?q52zb; (case q52za => k_ne); (case q52zb => k_extra "z notin"))))
  (k_with "z sub" => (first | exact Sub.nil _ | (refine' Sub.cons ?q53za ?q53zb; (case q53za => k_mem); (case q53zb => k_extra "z sub"))))
  (k_with "z hash" => ((refine' LawH.at ?q54zh ?q54zn ?q54z1 ?q54z2 ?q54z3 ?q54z4 ?q54z5 ?q54z6; (case q54zh => assumption); (case q54zn => k_asm); (case q54z1 => k_mem); (case q54z2 => k_mem); (case q54z3 => k_mem); (case q54z4 => k_extra "z notin"); (case q54z5 => k_extra "z notin"); (case q54z6 => k_extra "z notin"))))
  (k_with "z hashnew" => ((intro h1 x dx F1 N1 nx nd; refine' hashNew ?q55zh ?q55z1 ?q55z2 ?q55z3 ?q55z4 ?q55z5 ?q55z6 N1 nx nd; (case q55zh => assumption); (case q55z1 => k_mem); (case q55z2 => k_mem); (case q55z3 => k_mem); (case q55z4 => k_ne); (case q55z5 => k_ne); (case q55z6 => k_ne))))
  (k_with "z binds" => ((intro x9 s9 fd9 o9 X9 ho9 hd9; (refine' lookup_inj ho9 ?q20h29 ?_; (case q20h29 => k_is); intro h39); subst h39; cases hd9; first | exact BindsTo.of_eq rfl | exact binds_K X9 rfl (by k_is) rfl rfl rfl)))
  (k_with "z nm new" => ((intro xN dN aN rootN t1N t2N t3N t4N t5N t6N u2N u6N oN odN TN DN h' tk' F' N' nxN ndN naN neN exN htN hdN okN lenN inN; (try dsimp only at N' nxN ndN naN); (have hlN := Ext.len exN))))
  (k_with "call ref" => ((k_here; (with_reducible show wpAny _ _ (call (Value.ref 140) _ _) _ _ _); k_dflt (refine' call_new (size := 32) ?q56B ?q56F ?q56X ?q56T ?q56N ?q56c1 ?q56c2 ?q56c3 ?q56c4 ?q56hb ?q56H ?q56ot ?q56U ?q56z ?q56r ?q56lo ?q56s1 ?q56s2 ?_; (case q56F => k_asm); (case q56N => k_asm); (case q56B => k_asm); (case q56X => k_asm); (case q56T => k_asm); (case q56c1 => exact rfl); (case q56c2 => exact rfl); (case q56c3 => exact rfl); (case q56c4 => exact rfl); (case q56hb => k_extra "z binds"); (case q56H => k_extra "z hashnew"); (case q56ot => assumption); (case q56U => k_updF); (case q56z => omega); (case q56r => k_room); (case q56lo => assumption); (case q56s1 => omega); (case q56s2 => omega)); k_extra "z nm new"; (try k_sweep))))
  (k_with "z nm blanks" => ((intro lK vsK nK h' tk' oK TK F' N' nlK exK htK blK; (try dsimp only at N' nlK); (have hlK := Ext.len exK))))
  (k_with "call ref" => ((k_here; (with_reducible show wpAny _ _ (call (Value.ref 165) _ _) _ _ _); k_dflt (refine' call_blanks (d := 256) ?q57B ?q57F ?q57X ?q57T ?q57N ?q57c1 ?q57c2 ?q57c3 ?q57c4 ?q57H ?q57ot ?q57U ?q57z ?q57r ?q57dd ?q57lo ?_; (case q57F => k_asm); (case q57N => k_asm); (case q57B => k_asm); (case q57X => k_asm); (case q57T => k_asm); (case q57c1 => exact rfl); (case q57c2 => exact rfl); (case q57c3 => exact rfl); (case q57c4 => exact rfl); (case q57H => k_extra "z hash"); (case q57ot => assumption); (case q57U => k_updF); (case q57z => omega); (case q57r => k_room); (case q57dd => omega); (case q57lo => assumption)); k_extra "z nm blanks"; (try k_sweep))))
  (k_with "z nm blk" => (intro bK uK hbK))
  (k_with "subscriptTail" => ((k_here; (with_reducible show wpAny _ _ (subscriptTail _ _ (Value.ref _) (Value.int _ _)) _ _ _); k_dflt (refine' item_blk (d := 256) ?q58N ?q58m ?q58b ?q58d ?q58n ?_; (case q58N => k_asm); (case q58m => k_mem); (case q58b => assumption); (case q58d => omega); (case q58n => omega)); k_extra "z nm blk")))
  (k_with "compareOp NotEq bytes bytes" => ((k_here; refine stop ?_)))
  (k_with "z nm sc" => (intro hsc9 tkSc))
  (k_with "truthy ref" => ((k_here; k_dflt (refine' script_true ?q59F ?q59l ?q59i ?q59n ?_ ?_; (case q59F => k_asm); (case q59l => assumption); (case q59i => assumption); (case q59n => assumption)); (all_goals k_extra "z nm sc"))))
  (k_with "z nm it" => (intro nIt uIt))
  (k_with "subscriptTail" => ((k_here; (with_reducible show wpAny _ _ (subscriptTail _ _ (Value.ref _) (Value.int 0 _)) _ _ _); k_dflt (refine' script_item ?q60F ?q60l ?q60i ?q60n ?_; (case q60F => k_asm); (case q60l => assumption); (case q60i => assumption); (case q60n => assumption)); k_extra "z nm it")))
  (k_with "z upd3" => (first | exact Upd3.nil | (refine' Upd3.one ?q61a; (case q61a => k_extra "z upd3")) | (refine' Upd3.two ?q61a; (case q61a => k_extra "z upd3")) | (refine' Upd3.three ?q61a; (case q61a => k_extra "z upd3")) | (refine' Upd3.skip ?q61n ?q61a; (case q61n => (refine ⟨?_, ?_, ?_⟩ <;> k_ne)); (case q61a => k_extra "z upd3"))))
  (k_with "z upd2" => (first | exact Upd2.nil | (refine' Upd2.one ?q62a; (case q62a => k_extra "z upd2")) | (refine' Upd2.two ?q62a; (case q62a => k_extra "z upd2")) | (refine' Upd2.skip ?q62n ?q62a; (case q62n => (refine ⟨?_, ?_⟩ <;> k_ne)); (case q62a => k_extra "z upd2")) | (refine' Upd2.rest ?q62a; (case q62a => assumption))))
  (k_with "k_mem" => (((repeat (first | exact List.Mem.head _ | exact memOf (by with_reducible assumption) | refine' List.Mem.tail _ ?_)); done)))
  (k_with "k_ne" => (first | (refine PySem.W.neN ?_; (try dsimp only); first | exact Apx.l (by with_reducible assumption) (by k_mem) | exact Apx.r (by with_reducible assumption) (by k_mem) | exact AllNe.at1 (by with_reducible assumption) (by k_mem) | exact AllNe.at2 (by with_reducible assumption) (by k_mem) | exact Off.at1 (by with_reducible assumption) (by with_reducible assumption) (by k_mem) | exact Off.at2 (by with_reducible assumption) (by with_reducible assumption) (by k_mem) | with_reducible assumption | omega)))
  (k_with "k_all" => (first | exact List.forall_mem_nil _ | exact Off.all (by with_reducible assumption) (by k_mem) | (refine' List.forall_mem_cons.mpr ⟨?q65a, ?q65b⟩; (case q65a => k_ne); (case q65b => k_all))))
  (k_with "z sub" => (first | exact Sub.nil _ | (refine' Sub.cons ?q66za ?q66zb; (case q66za => k_mem); (case q66zb => k_extra "z sub")) | (repeat (first | exact Sub.refl _ | refine' Sub.skip ?_))))
  (k_with "exec For Tuple Name cons nil" => (refine stop ?_))
  (k_with "pyIter ref" => (refine stop ?_))
  (k_with "call ref" => ((k_here; (with_reducible show wpAny _ _ (call (Value.ref 184) _ _) _ _ _); refine stop ?_)))
  (k_with "execs cons" => (((with_reducible show wpAny _ _ (execs (Stmt.If _ _ _ ⟨211, _, _, _⟩ :: _) _) _ _ _); refine stop ?_)))
  (k_with "assign Tuple" => ((k_here; (with_reducible show wpAny _ _ (assign (Expr.Tuple _ _ _) _ (Value.ref _)) _ _ _); k_dflt (refine' unpackN_ ?q67F ?q67N ?q67T ?q67k1 ?q67k2 ?q67k3 ?_; (case q67F => with_reducible assumption); (case q67N => with_reducible assumption); (case q67T => exact News.isTup (by with_reducible assumption) (by k_mem)); (case q67k1 => exact rfl); (case q67k2 => exact rfl); (case q67k3 => exact rfl)); intro h' F' N'; (try k_sweep))))
  (k_with "z msub" => (first | exact mnil | (refine' mcons ?q68za ?q68zb; (case q68za => k_mem); (case q68zb => k_extra "z msub"))))
  (k_with "call ref" => ((k_here; (with_reducible show wpAny _ _ (call (Value.ref 177) _ _) _ _ _); refine stop ?_)))
  (k_with "compareOp NotEq ref ref" => ((k_here; (with_reducible show wpAny _ _ (compareOp CmpOp.NotEq (Value.ref _) (Value.ref _)) _ _ _); refine stop ?_)))
  (k_with "subscriptTail" => ((k_here; (with_reducible show wpAny _ _ (subscriptTail _ _ (Value.ref _) (Value.int 0 _)) _ _ _); k_dflt (refine' pair0 ?q74N ?q74m ?_; (case q74N => with_reducible assumption); (case q74m => k_mem); k_whole))))
  (k_with "execs cons" => (((with_reducible show wpAny _ _ (execs (Stmt.For _ _ _ _ ⟨195, _, _, _⟩ :: _) _) _ _ _); refine stop ?_)))
  trivial
section
variable {prog : Program} {w : World} {g : Heap} {L fn : Addr} {s : Shared} {h : Heap} {tk : Nat} {m : Str → Option Value} {Q : Flow → Shared → Prop} {E1 : Value → Shared → Prop} {fa x dx da ta ca c5 sc pa bl ho fo : Addr} {ofa oca ocl ot odb o1 o2 o3 o4 oh ofd : Obj} {ps : Array Value}
  {p : Program} {loose : List Str} {mean : ExcName → Option Value} {mg mb : Str → Option Value} {t1 t2 t3 t4 t5 t6 u1 u2 u3 u6 us ud ut : Tok} {size np nv : Nat} {dflt root : Array UInt8} {T : List Oct} {D : List (Oct × Oct)} {Dh : List (Int × Oct)} {items ws vs : List Value} {ns : List Int} {tl keys : List (Addr × Obj)} {f : Nat → Oct} {xs : FdX}
set_option maxHeartbeats 4000000 in
theorem seg_told (B : Below callerA g [] g) (X : (hd0.heap_1 w.params).In g) (TT : Top p loose mean mg mb g) (F : Fr g L h m) (hsc : g.IsList sc items.toArray) (hints : IntsAre items ns) (hns : ns.length ≤ 63)
    (N : News g L h ((x, instObj 140 dx) :: (dx, dictOf (treeEs w t1 t2 t3 t4 t5 t6 (.int size u1) (.int (8 * size : Int) u2) (.bytes dflt u3) (.ref fa) (.ref da) (.bytes root u6)) 6) :: (da, odb) :: (ho, oh) :: (fo, ofd) :: (pa, listOf ws.toArray np) :: (bl, listOf vs.toArray nv) :: (fa, ofa) :: (ca, oca) :: (c5, ocl) :: (ta, ot) :: (L + 1 + 1 + 1 + 1, o4) :: (L + 1 + 1 + 1, o3) :: (L + 1 + 1, o2) :: (L + 1, o1) :: (186, tabObj ps) :: tl))
    (hA : ApL [x, dx, da, ho, fo, pa, bl, fa, ca, c5, ta, L + 1 + 1 + 1 + 1, L + 1 + 1, L + 1, 186]) (hOff : Off tl [x, dx, da, ho, fo, pa, bl, fa, ca, c5, ta, L + 1 + 1 + 1 + 1, L + 1 + 1, L + 1, 186]) (H : LawH ofa oca ocl ca c5 ta) (hot : IsTbl prog w ot T) (hsz : T.length ≤ 1500) (lo : (ta == sysModules) = false) (loh : (ho == sysModules) = false) (lof : (fo == sysModules) = false)
    (hdb : IsKB (bytesKind prog w) odb D) (hszD : D.length ≤ 2000) (ok : DbOk T D) (hin : In T D (8 * size) f root.toList) (hh : IsKB (intKind prog w) oh Dh) (hrep : Rep Dh f dflt.toList 0 (8 * size)) (hfd : FdObj prog w ofd xs) (hkf : KeyFrom prog w [] keys xs) (hks : ∀ p ∈ keys, p ∈ tl) (cov : Cov T dflt.toList xs f 0 (8 * size))
    (hpast : ∀ v ∈ ws, PastIt T D size tl v) (hlast : LastOk prog w T D size dflt.toList ws tl o4) (hblk : Blk T dflt.toList (8 * size + 1) vs)
    (hd1 : o1.data = .cell (some (.int ((8 * size : Nat) : Int) ut))) (hd2 : o2.data = .cell (some (.ref ho))) (hwl : ws.length ≤ 10)
    (htold : m "told" = some .none ∨ ∃ tq pvs n bs kl t9, m "told" = some (.ref tq) ∧ (tq, { cls := .type "tuple", data := .seq (List.toArray pvs) n }) ∈ tl ∧ Octs pvs bs ∧ Ons T f kl (8 * size) bs ∧ kl < 2 ^ (8 * size) ∧ o3.data = .cell (some (.int ((kl : Nat) : Int) t9)))
    (hs1 : 1 ≤ size) (hs2 : size ≤ 2) (hm1 : m "_law_hash" = some (.ref fa)) (hm2 : m "tree" = some (.ref x)) (hm3 : m "script" = some (.ref sc)) (hm4 : m "past" = some (.ref pa)) (hm5 : m "size" = some (.int (size : Int) us)) (hm6 : m "default" = some (.bytes dflt ud)) (hm7 : m "blanks" = some (.ref bl)) (hm8 : m "found" = some (.ref fo))
    (hQ : ∀ h' tk', (∀ b o, g.get? b = some o → h'.get? b = some o) → GrownAt 186 h' → Q (.ret (.bool true)) { s with heap := h', toks := tk' }) :
    wpAny (model prog w) (callerA.deeper (lawEnv L fn)) (execs (lawBody.drop 15) (lawEnv L fn)) Q (fun e s' => wpAny (model prog w) (callerA.deeper (lawEnv L fn)) (leaving (lawEnv L fn) e) (fun _ s'' => E1 e s'') (fun e' s'' => E1 e' s'') s') { s with heap := h, toks := tk } := by
  conv in (execs (List.drop 15 lawBody) _) => arg 1; whnf
  let od9 : Obj := dictOf (treeEs w t1 t2 t3 t4 t5 t6 (.int size u1) (.int (8 * size : Int) u2) (.bytes dflt u3) (.ref fa) (.ref da) (.bytes root u6)) 6
  have N : News g L h ((x, instObj 140 dx) :: (dx, od9) :: (da, odb) :: (ho, oh) :: (fo, ofd) :: (pa, listOf ws.toArray np) :: (bl, listOf vs.toArray nv) :: (fa, ofa) :: (ca, oca) :: (c5, ocl) :: (ta, ot) :: (L + 1 + 1 + 1 + 1, o4) :: (L + 1 + 1 + 1, o3) :: (L + 1 + 1, o2) :: (L + 1, o1) :: (186, tabObj ps) :: tl) := N
  have hA0 := hA
  obtain ⟨a1, a2, a3, a4, a5, a6, a7, a8, a9, a10, a11, a12, a13, a14, _⟩ := hA
  rcases htold with ht | ⟨tq, pvs, n9, bs, kl, t9, ht, htq, hoc, hons, hkl, hd3⟩
  · k_steps
    unfold Stop
    with_reducible rename Fr _ _ _ _ => F9
    with_reducible rename News _ _ _ _ => N9
    exact seg_each B X TT F9 hsc hints hns (newsSub (l := (x, instObj 140 dx) :: (dx, od9) :: (da, odb) :: (ho, oh) :: (fo, ofd) :: (pa, listOf ws.toArray np) :: (bl, listOf vs.toArray nv) :: (fa, ofa) :: (ca, oca) :: (c5, ocl) :: (ta, ot) :: (L + 1 + 1 + 1 + 1, o4) :: (L + 1 + 1, o2) :: (L + 1, o1) :: (186, tabObj ps) :: tl) N9 (by k_extra "z sub")) hA0 hOff H hot hsz lo loh lof hdb hszD ok hin hh hrep hfd hkf hks cov hpast hlast hblk hd1 hd2 hwl hs1 hs2 hm1 hm2 hm3 hm4 hm5 hm6 hm7 hm8 hQ
  · k_steps
    unfold Stop
    with_reducible rename Fr _ _ _ _ => F2
    with_reducible rename News _ _ _ _ => N2
    refine' call_ways (f := f) (xs := xs) (dflt := dflt.toList) (pp := kl) (d := 8 * size) B F2 X TT N2 rfl rfl rfl rfl ?w1 ?w2 ?wne ?wr ?wu ?wd hkl hblk ?wn ?wb hfd ?wk cov lof ?_
    case w1 => k_mem
    case w2 => k_mem
    case wne => k_ne
    case wr => k_room
    case wu => (have hr9 := law_units L fn; omega)
    case wd => omega
    case wn => omega
    case wb => omega
    case wk => exact keys_at N2 hkf hks (fun p hp => by repeat (first | exact hp | refine' List.Mem.tail _ ?_)) (hOff.notin (off2 (by k_mem) (by k_mem)))
    intro rW q1W q2W v1W v2W b1W b2W n1W n2W n3W hW tkW FW NW ho1 hs1W ho2 hs2W
    clear F2 N2
    have hbs : bs = b1W := Ons.eq hons hs1W
    subst hbs
    k_steps
    unfold Stop
    with_reducible rename Fr _ _ _ _ => F3
    with_reducible rename News _ _ _ _ => N3
    refine' ne_tup N3 ?v1 ?v2 hoc ho1 ?vu ?_
    case v1 => k_mem
    case v2 => k_mem
    case vu => (have hr9 := law_units L fn; omega)
    k_steps
    unfold Stop
    with_reducible rename Fr _ _ _ _ => F9
    with_reducible rename News _ _ _ _ => N9
    exact seg_each B X TT F9 hsc hints hns (newsSub (l := (x, instObj 140 dx) :: (dx, od9) :: (da, odb) :: (ho, oh) :: (fo, ofd) :: (pa, listOf ws.toArray np) :: (bl, listOf vs.toArray nv) :: (fa, ofa) :: (ca, oca) :: (c5, ocl) :: (ta, ot) :: (L + 1 + 1 + 1 + 1, o4) :: (L + 1 + 1, o2) :: (L + 1, o1) :: (186, tabObj ps) :: tl) N9 (by k_extra "z sub")) hA0 hOff H hot hsz lo loh lof hdb hszD ok hin hh hrep hfd hkf hks cov hpast hlast hblk hd1 hd2 hwl hs1 hs2 hm1 hm2 hm3 hm4 hm5 hm6 hm7 hm8 hQ
end
end -- S33
section -- S32
theorem lines_s32_1 : True := by
  w_top off
  k_with_none
  (k_with "execs cons" => (((with_reducible show wpAny _ _ (execs (Stmt.Assign _ _ _ :: _) _) _ _ _); refine execsGen fun P8 hP8 => ?_)))
  (k_with "execs cons" => (((with_reducible show wpAny _ _ (execs (Stmt.Expr _ _ :: _) _) _ _ _); refine execsGen fun P8 hP8 => ?_)))
  (k_with "execs cons" => (((with_reducible show wpAny _ _ (execs (Stmt.AugAssign _ _ _ _ :: _) _) _ _ _); refine execsGen fun P8 hP8 => ?_)))
  (k_with "FinQ" => ((refine finOut (by with_reducible assumption) ?_; (try dsimp only))))
  (k_with "exec Try" => (((with_reducible show wpAny _ _ (exec (Stmt.Try _ (_ :: _) _ [] _) _) _ _ _); refine wpAny_Try_except ?_)))
  (k_with "eval Name" => ((k_here; k_dflt (refine' nameX_L ?q10F ?q10v ?_ ?q10a ?q10b; (case q10a => rfl); (case q10b => rfl); (case q10F => k_asm); (case q10v => assumption); k_whole))))
  (k_with "k_ne" => (first | (refine PySem.W.neN ?_; (try dsimp only); first | exact Apx.l (by with_reducible assumption) (by k_mem) | exact Apx.r (by with_reducible assumption) (by k_mem) | exact AllNe.at1 (by with_reducible assumption) (by k_mem) | exact AllNe.at2 (by with_reducible assumption) (by k_mem) | omega)))
  (k_with "nm_c0" => ((intro hC F' N'; (try dsimp only at N'); (try k_sweep))))
  (k_with "noteFrame ref" => ((k_here; (first
  | (k_dflt (refine' catch0 (mean := _) ?q44A ?q44R ?q44F ?q44U ?q44X ?q44T ?q44c ?q44e ?_ ?q44hE ?q44hk ?q44hx ?q44hd; (case q44R => assumption); (case q44A => exact rfl); (case q44F => assumption); (case q44U => assumption); (case q44X => assumption); (case q44T => assumption)))
  | (k_dflt (refine' catch0 (mean := _) ?q44A ?q44R ?q44F ?q44U ?q44X ?q44T ?q44c ?q44e ?_ ?q44hE ?q44hk ?q44hx ?q44hd; (case q44R => exact RaisedS.toSN (by assumption)); (case q44A => exact rfl); (case q44F => assumption); (case q44U => assumption); (case q44X => assumption); (case q44T => assumption)))); (case q44c => kts_nm); (case q44e => kts_exm); (case q44hk => exact rfl); (case q44hx => exact rfl); (case q44hd => decide); (case q44hE => with_unfolding_all passes_own); k_extra "nm_c0")))
  (k_with "InitBack" => ((dsimp only [InitBack])))
  (k_with "loadName" => ((k_here; k_dflt (refine' loadX ?q45F ?q45v ?_ ?q45a ?q45b; (case q45a => rfl); (case q45b => rfl); (case q45F => k_asm); (case q45v => first | assumption | exact rfl); k_whole))))
  (k_with "z apx" => (first | exact Apx.nil _ | (refine' Apx.cons ?q50za ?q50zb; (case q50za => k_ne); (case q50zb => k_extra "z apx"))))
  (k_with "z apl" => (first | exact True.intro | (refine' And.intro ?q51za ?q51zb; (case q51za => k_extra "z apx"); (case q51zb => k_extra "z apl"))))
  (k_with "z notin" => (first | exact notin_nil | (refine' notin_cons ?q52za ?q52zb; (case q52za => k_ne); (case q52zb => k_extra "z notin"))))
  (k_with "z sub" => (first | exact Sub.nil _ | (refine' Sub.cons ?q53za ?q53zb; (case q53za => k_mem); (case q53zb => k_extra "z sub"))))
  (k_with "z hash" => ((refine' LawH.at ?q54zh ?q54zn ?q54z1 ?q54z2 ?q54z3 ?q54z4 ?q54z5 ?q54z6; (case q54zh => assumption); (case q54zn => k_asm); (case q54z1 => k_mem); (case q54z2 => k_mem); (case q54z3 => k_mem); (case q54z4 => k_extra "z notin"); (case q54z5 => k_extra "z notin"); (case q54z6 => k_extra "z notin"))))
  (k_with "z hashnew" => ((intro h1 x dx F1 N1 nx nd; refine' hashNew ?q55zh ?q55z1 ?q55z2 ?q55z3 ?q55z4 ?q55z5 ?q55z6 N1 nx nd; (case q55zh => assumption); (case q55z1 => k_mem); (case q55z2 => k_mem); (case q55z3 => k_mem); (case q55z4 => k_ne); (case q55z5 => k_ne); (case q55z6 => k_ne))))
  (k_with "z binds" => ((intro x9 s9 fd9 o9 X9 ho9 hd9; (refine' lookup_inj ho9 ?q20h29 ?_; (case q20h29 => k_is); intro h39); subst h39; cases hd9; first | exact BindsTo.of_eq rfl | exact binds_K X9 rfl (by k_is) rfl rfl rfl)))
  (k_with "z nm new" => ((intro xN dN aN rootN t1N t2N t3N t4N t5N t6N u2N u6N oN odN TN DN h' tk' F' N' nxN ndN naN neN exN htN hdN okN lenN inN; (try dsimp only at N' nxN ndN naN); (have hlN := Ext.len exN))))
  (k_with "call ref" => ((k_here; (with_reducible show wpAny _ _ (call (Value.ref 140) _ _) _ _ _); k_dflt (refine' call_new (size := 32) ?q56B ?q56F ?q56X ?q56T ?q56N ?q56c1 ?q56c2 ?q56c3 ?q56c4 ?q56hb ?q56H ?q56ot ?q56U ?q56z ?q56r ?q56lo ?q56s1 ?q56s2 ?_; (case q56F => k_asm); (case q56N => k_asm); (case q56B => k_asm); (case q56X => k_asm); (case q56T => k_asm); (case q56c1 => exact rfl); (case q56c2 => exact rfl); (case q56c3 => exact rfl); (case q56c4 => exact rfl); (case q56hb => k_extra "z binds"); (case q56H => k_extra "z hashnew"); (case q56ot => assumption); (case q56U => k_updF); (case q56z => omega); (case q56r => k_room); (case q56lo => assumption); (case q56s1 => omega); (case q56s2 => omega)); k_extra "z nm new"; (try k_sweep))))
  (k_with "z nm blanks" => ((intro lK vsK nK h' tk' oK TK F' N' nlK exK htK blK; (try dsimp only at N' nlK); (have hlK := Ext.len exK))))
  (k_with "call ref" => ((k_here; (with_reducible show wpAny _ _ (call (Value.ref 165) _ _) _ _ _); k_dflt (refine' call_blanks (d := 256) ?q57B ?q57F ?q57X ?q57T ?q57N ?q57c1 ?q57c2 ?q57c3 ?q57c4 ?q57H ?q57ot ?q57U ?q57z ?q57r ?q57dd ?q57lo ?_; (case q57F => k_asm); (case q57N => k_asm); (case q57B => k_asm); (case q57X => k_asm); (case q57T => k_asm); (case q57c1 => exact rfl); (case q57c2 => exact rfl); (case q57c3 => exact rfl); (case q57c4 => exact rfl); (case q57H => k_extra "z hash"); (case q57ot => assumption); (case q57U => k_updF); (case q57z => omega); (case q57r => k_room); (case q57dd => omega); (case q57lo => assumption)); k_extra "z nm blanks"; (try k_sweep))))
  (k_with "z nm blk" => (intro bK uK hbK))
  (k_with "subscriptTail" => ((k_here; (with_reducible show wpAny _ _ (subscriptTail _ _ (Value.ref _) (Value.int _ _)) _ _ _); k_dflt (refine' item_blk (d := 256) ?q58N ?q58m ?q58b ?q58d ?q58n ?_; (case q58N => k_asm); (case q58m => k_mem); (case q58b => assumption); (case q58d => omega); (case q58n => omega)); k_extra "z nm blk")))
  (k_with "compareOp NotEq bytes bytes" => ((k_here; refine stop ?_)))
  (k_with "z nm sc" => (intro hsc9 tkSc))
  (k_with "truthy ref" => ((k_here; k_dflt (refine' script_true ?q59F ?q59l ?q59i ?q59n ?_ ?_; (case q59F => k_asm); (case q59l => assumption); (case q59i => assumption); (case q59n => assumption)); (all_goals k_extra "z nm sc"))))
  (k_with "z nm it" => (intro nIt uIt))
  (k_with "subscriptTail" => ((k_here; (with_reducible show wpAny _ _ (subscriptTail _ _ (Value.ref _) (Value.int 0 _)) _ _ _); k_dflt (refine' script_item ?q60F ?q60l ?q60i ?q60n ?_; (case q60F => k_asm); (case q60l => assumption); (case q60i => assumption); (case q60n => assumption)); k_extra "z nm it")))
  (k_with "z upd3" => (first | exact Upd3.nil | (refine' Upd3.one ?q61a; (case q61a => k_extra "z upd3")) | (refine' Upd3.two ?q61a; (case q61a => k_extra "z upd3")) | (refine' Upd3.three ?q61a; (case q61a => k_extra "z upd3")) | (refine' Upd3.skip ?q61n ?q61a; (case q61n => (refine ⟨?_, ?_, ?_⟩ <;> k_ne)); (case q61a => k_extra "z upd3"))))
  (k_with "z upd2" => (first | exact Upd2.nil | (refine' Upd2.one ?q62a; (case q62a => k_extra "z upd2")) | (refine' Upd2.two ?q62a; (case q62a => k_extra "z upd2")) | (refine' Upd2.skip ?q62n ?q62a; (case q62n => (refine ⟨?_, ?_⟩ <;> k_ne)); (case q62a => k_extra "z upd2")) | (refine' Upd2.rest ?q62a; (case q62a => assumption))))
  (k_with "k_mem" => (((repeat (first | exact List.Mem.head _ | exact memOf (by with_reducible assumption) | refine' List.Mem.tail _ ?_)); done)))
  (k_with "k_ne" => (first | (refine PySem.W.neN ?_; (try dsimp only); first | exact Apx.l (by with_reducible assumption) (by k_mem) | exact Apx.r (by with_reducible assumption) (by k_mem) | exact AllNe.at1 (by with_reducible assumption) (by k_mem) | exact AllNe.at2 (by with_reducible assumption) (by k_mem) | exact Off.at1 (by with_reducible assumption) (by with_reducible assumption) (by k_mem) | exact Off.at2 (by with_reducible assumption) (by with_reducible assumption) (by k_mem) | with_reducible assumption | omega)))
  (k_with "k_all" => (first | exact List.forall_mem_nil _ | exact Off.all (by with_reducible assumption) (by k_mem) | (refine' List.forall_mem_cons.mpr ⟨?q65a, ?q65b⟩; (case q65a => k_ne); (case q65b => k_all))))
  (k_with "z sub" => (first | exact Sub.nil _ | (refine' Sub.cons ?q66za ?q66zb; (case q66za => k_mem); (case q66zb => k_extra "z sub")) | (repeat (first | exact Sub.refl _ | refine' Sub.skip ?_))))
  (k_with "exec For Tuple Name cons nil" => (refine stop ?_))
  (k_with "pyIter ref" => (refine stop ?_))
  (k_with "call ref" => ((k_here; (with_reducible show wpAny _ _ (call (Value.ref 184) _ _) _ _ _); refine stop ?_)))
  (k_with "execs cons" => (((with_reducible show wpAny _ _ (execs (Stmt.If _ _ _ ⟨211, _, _, _⟩ :: _) _) _ _ _); refine stop ?_)))
  (k_with "assign Tuple" => ((k_here; (with_reducible show wpAny _ _ (assign (Expr.Tuple _ _ _) _ (Value.ref _)) _ _ _); k_dflt (refine' unpackN_ ?q67F ?q67N ?q67T ?q67k1 ?q67k2 ?q67k3 ?_; (case q67F => with_reducible assumption); (case q67N => with_reducible assumption); (case q67T => exact News.isTup (by with_reducible assumption) (by k_mem)); (case q67k1 => exact rfl); (case q67k2 => exact rfl); (case q67k3 => exact rfl)); intro h' F' N'; (try k_sweep))))
  (k_with "z msub" => (first | exact mnil | (refine' mcons ?q68za ?q68zb; (case q68za => k_mem); (case q68zb => k_extra "z msub"))))
  (k_with "z mex" => (first | exact mex_nil | (refine' mex_cons ?q81za ?q81zb; (case q81za => k_mem); (case q81zb => k_extra "z mex"))))
  (k_with "call ref" => ((k_here; (with_reducible show wpAny _ _ (call (Value.ref 170) _ _) _ _ _); refine stop ?_)))
  (k_with "call ref" => ((k_here; (with_reducible show wpAny _ _ (call (Value.ref 177) _ _) _ _ _); refine stop ?_)))
  (k_with "compareOp NotEq bytes bytes" => ((k_here; refine stop ?_)))
  (k_with "execs cons" => (((with_reducible show wpAny _ _ (execs (Stmt.If _ _ _ ⟨193, _, _, _⟩ :: _) _) _ _ _); refine stop ?_)))
  trivial
section
variable {prog : Program} {w : World} {g : Heap} {L fn : Addr} {s : Shared} {h : Heap} {tk : Nat} {m : Str → Option Value} {Q : Flow → Shared → Prop} {E1 : Value → Shared → Prop} {fa x dx da ta ca c5 sc pa bl ho : Addr} {ofa oca ocl ot odb o1 o2 o3 o4 oh : Obj} {ps : Array Value}
  {p : Program} {loose : List Str} {mean : ExcName → Option Value} {mg mb : Str → Option Value} {t1 t2 t3 t4 t5 t6 u1 u2 u3 u6 us ud ut : Tok} {size np nv : Nat} {dflt root : Array UInt8} {T : List Oct} {D : List (Oct × Oct)} {Dh : List (Int × Oct)} {items ws vs : List Value} {ns : List Int} {tl : List (Addr × Obj)} {f : Nat → Oct}
set_option maxHeartbeats 4000000 in
theorem seg_found (B : Below callerA g [] g) (X : (hd0.heap_1 w.params).In g) (TT : Top p loose mean mg mb g) (F : Fr g L h m) (hsc : g.IsList sc items.toArray) (hints : IntsAre items ns) (hns : ns.length ≤ 63)
    (N : News g L h ((x, instObj 140 dx) :: (dx, dictOf (treeEs w t1 t2 t3 t4 t5 t6 (.int size u1) (.int (8 * size : Int) u2) (.bytes dflt u3) (.ref fa) (.ref da) (.bytes root u6)) 6) :: (da, odb) :: (ho, oh) :: (pa, listOf ws.toArray np) :: (bl, listOf vs.toArray nv) :: (fa, ofa) :: (ca, oca) :: (c5, ocl) :: (ta, ot) :: (L + 1 + 1 + 1 + 1, o4) :: (L + 1 + 1 + 1, o3) :: (L + 1 + 1, o2) :: (L + 1, o1) :: (186, tabObj ps) :: tl))
    (hA : ApL [x, dx, da, ho, pa, bl, fa, ca, c5, ta, L + 1 + 1 + 1 + 1, L + 1 + 1 + 1, L + 1 + 1, L + 1, 186]) (hOff : Off tl [x, dx, da, ho, pa, bl, fa, ca, c5, ta, L + 1 + 1 + 1 + 1, L + 1 + 1 + 1, L + 1 + 1, L + 1, 186]) (H : LawH ofa oca ocl ca c5 ta) (hot : IsTbl prog w ot T) (hsz : T.length ≤ 1200) (lo : (ta == sysModules) = false) (loh : (ho == sysModules) = false)
    (hdb : IsKB (bytesKind prog w) odb D) (hszD : D.length ≤ 2000) (ok : DbOk T D) (hin : In T D (8 * size) f root.toList) (hh : IsKB (intKind prog w) oh Dh) (hrep : Rep Dh f dflt.toList 0 (8 * size))
    (hpast : ∀ v ∈ ws, PastIt T D size tl v) (hlast : LastOk prog w T D size dflt.toList ws tl o4) (hblk : Blk T dflt.toList (8 * size + 1) vs)
    (hd1 : o1.data = .cell (some (.int ((8 * size : Nat) : Int) ut))) (hd2 : o2.data = .cell (some (.ref ho))) (hwl : ws.length ≤ 10) (hDl : Dh.length ≤ 10)
    (htold : m "told" = some .none ∨ ∃ tq pvs n bs kl t9, m "told" = some (.ref tq) ∧ (tq, { cls := .type "tuple", data := .seq (List.toArray pvs) n }) ∈ tl ∧ Octs pvs bs ∧ Ons T f kl (8 * size) bs ∧ kl < 2 ^ (8 * size) ∧ o3.data = .cell (some (.int ((kl : Nat) : Int) t9)))
    (hs1 : 1 ≤ size) (hs2 : size ≤ 2) (hm1 : m "_law_hash" = some (.ref fa)) (hm2 : m "tree" = some (.ref x)) (hm3 : m "script" = some (.ref sc)) (hm4 : m "past" = some (.ref pa)) (hm5 : m "size" = some (.int (size : Int) us)) (hm6 : m "default" = some (.bytes dflt ud)) (hm7 : m "blanks" = some (.ref bl))
    (hQ : ∀ h' tk', (∀ b o, g.get? b = some o → h'.get? b = some o) → GrownAt 186 h' → Q (.ret (.bool true)) { s with heap := h', toks := tk' }) :
    wpAny (model prog w) (callerA.deeper (lawEnv L fn)) (execs (lawBody.drop 13) (lawEnv L fn)) Q (fun e s' => wpAny (model prog w) (callerA.deeper (lawEnv L fn)) (leaving (lawEnv L fn) e) (fun _ s'' => E1 e s'') (fun e' s'' => E1 e' s'') s') { s with heap := h, toks := tk } := by
  conv in (execs (List.drop 13 lawBody) _) => arg 1; whnf
  let od9 : Obj := dictOf (treeEs w t1 t2 t3 t4 t5 t6 (.int size u1) (.int (8 * size : Int) u2) (.bytes dflt u3) (.ref fa) (.ref da) (.bytes root u6)) 6
  have N : News g L h ((x, instObj 140 dx) :: (dx, od9) :: (da, odb) :: (ho, oh) :: (pa, listOf ws.toArray np) :: (bl, listOf vs.toArray nv) :: (fa, ofa) :: (ca, oca) :: (c5, ocl) :: (ta, ot) :: (L + 1 + 1 + 1 + 1, o4) :: (L + 1 + 1 + 1, o3) :: (L + 1 + 1, o2) :: (L + 1, o1) :: (186, tabObj ps) :: tl) := N
  have hA0 := hA
  obtain ⟨a1, a2, a3, a4, a5, a6, a7, a8, a9, a10, a11, a12, a13, a14, _⟩ := hA
  k_steps
  unfold Stop
  with_reducible rename Fr _ _ _ _ => F2
  with_reducible rename News _ _ _ _ => N2
  with_reducible rename AllLt _ _ => hAL
  refine pickO N2 fun fo ofo e1 e2 => ?_
  subst e1 e2
  have hfo : ∀ p ∈ tl, p.1 ≠ fo := fun p hp => Nat.ne_of_lt (AllLt.all hAL p (by repeat (first | exact hp | refine' List.Mem.tail _ ?_)))
  have hrest : ∀ p ∈ tl, @Ne Nat p.1 fo ∧ @Ne Nat p.1 ta := fun p hp => ⟨hfo p hp, hOff p hp ta (by k_mem)⟩
  have hfd0 : FdObj prog w ofo [] := fd_empty (by assumption)
  have hdl : Dh.length * (8 * size + 1) ≤ 10 * 17 := Nat.mul_le_mul hDl (by omega)
  refine' call_topA (top_all prog w (8 * size)) (low := 0) (f := f) (dflt := dflt.toList) (xs := []) (D := Dh) B F2 X TT N2 rfl rfl rfl rfl ?w1 ?w2 ?w3 ?w4 ?wU ?wne ?wr ?wu hh ?wd loh hrep ?wa hblk ?wn ?wb hfd0 (keys_empty _) (abs_empty _ _) ?wx ?wH hot ?wz lo ?_
  case w1 => k_mem
  case w2 => k_mem
  case w3 => k_mem
  case w4 => k_mem
  case wU => k_extra "z upd2"
  case wne => (refine ⟨?_, ?_, ?_, ?_, ?_, ?_⟩ <;> k_ne)
  case wr => (have hr9 := law_depth L fn; omega)
  case wu => (have hr9 := law_units L fn; omega)
  case wd => omega
  case wa => exact Nat.zero_mod _
  case wn => omega
  case wb => omega
  case wx => (simp only [List.length_nil]; omega)
  case wH => k_extra "z hash"
  case wz => omega
  intro bT tT xsT keysT ofT oT TT' hT tkT FT NT hnT kfT fdT covT soT exT htT trT lenT llT
  try dsimp only at NT
  simp only [List.cons_append, List.nil_append] at NT
  have e9 : root.toList = bT.toList := Tr.det ((In.tr hin).ext exT) trT
  have hlT := exT.len
  have hOffK : Off (tl ++ keysT) [fo, x, dx, da, ho, pa, bl, fa, ca, c5, ta, L + 1 + 1 + 1 + 1, L + 1 + 1 + 1, L + 1 + 1, L + 1, 186] := Off.append (Off.cons hfo hOff) (off_keys hnT (by k_extra "z mex"))
  have hOff9 : Off (tl ++ keysT) [x, dx, da, ho, fo, pa, bl, fa, ca, c5, ta, L + 1 + 1 + 1 + 1, L + 1 + 1, L + 1, 186] := hOffK.mono (by k_extra "z msub")
  have hA9 : ApL [x, dx, da, ho, fo, pa, bl, fa, ca, c5, ta, L + 1 + 1 + 1 + 1, L + 1 + 1, L + 1, 186] := by k_extra "z apl"
  clear F2 N2
  k_steps
  unfold Stop
  refine ne_octs e9 ?_
  k_steps
  unfold Stop
  have hsub : ∀ p ∈ tl, p ∈ tl ++ keysT := fun p hp => List.mem_append_left _ hp
  have hpast9 : ∀ v ∈ ws, PastIt TT' D size (tl ++ keysT) v := fun v hv => (hpast v hv).ext exT (Over.refl D) hsub
  have hlast9 := hlast.ext exT hsub
  have htold9 : m "told" = some .none ∨ ∃ tq pvs n bs kl t9, m "told" = some (.ref tq) ∧ (tq, { cls := .type "tuple", data := .seq (List.toArray pvs) n }) ∈ tl ++ keysT ∧ Octs pvs bs ∧ Ons TT' f kl (8 * size) bs ∧ kl < 2 ^ (8 * size) ∧ o3.data = .cell (some (.int ((kl : Nat) : Int) t9)) := by
    rcases htold with ht | ⟨tq, pvs, n9, bs, kl, t9, ht, htq, hoc, hons, hkl, hd3⟩
    · exact .inl ht
    · exact .inr ⟨tq, pvs, n9, bs, kl, t9, ht, hsub _ htq, hoc, hons.ext exT, hkl, hd3⟩
  with_reducible rename Fr _ _ _ _ => F9
  with_reducible rename News _ _ _ _ => N9
  exact seg_told B X TT F9 hsc hints hns (newsSub (l := (x, _) :: (dx, _) :: (da, odb) :: (ho, oh) :: (fo, ofT) :: (pa, _) :: (bl, _) :: (fa, ofa) :: (ca, oca) :: (c5, ocl) :: (ta, oT) :: (L + 1 + 1 + 1 + 1, o4) :: (L + 1 + 1 + 1, o3) :: (L + 1 + 1, o2) :: (L + 1, o1) :: (186, tabObj ps) :: (tl ++ keysT)) N9 (by k_extra "z sub")) hA9 hOff9 H htT (by omega) lo loh (by assumption) hdb hszD (ok.ext exT) (hin.over exT (Over.refl D)) hh hrep fdT kfT (fun p hp => List.mem_append_right _ hp) covT hpast9 hlast9 (hblk.ext exT) hd1 hd2 hwl htold9 hs1 hs2 hm1 hm2 hm3 hm4 hm5 hm6 hm7 rfl hQ
end
end -- S32
section -- S34a
section
variable {prog : Program} {w : World} {A : Around} {E : Value → Shared → Prop} {s : Shared}
theorem mod_nat {a : Int} (b : Nat) (hb : 0 < b) {t u : Tok} {Q : Value → Shared → Prop} (h : ∀ (d : Nat) t' tk, d < b → Q (.int (d : Int) t') { s with toks := tk }) : wpAny (model prog w) A (binaryOp .Mod (.int a t) (.int (b : Int) u)) Q E s := by
  refine mod_int (by omega) ?_
  have h0 := Int.fmod_nonneg_of_pos a (b := (b : Int)) (by omega)
  have h1 := Int.fmod_lt_of_pos a (b := (b : Int)) (by omega)
  have e : a.fmod (b : Int) = (((a.fmod (b : Int)).toNat : Nat) : Int) := by omega
  rw [e]
  exact h _ _ _ (by omega)
theorem lt_yes {d : Nat} {t u : Tok} {Q : Value → Shared → Prop} (e : d < 5) (h : Q (.bool true) s) : wpAny (model prog w) A (compareOp .Lt (.int (d : Int) t) (.int 5 u)) Q E s := by
  refine lt_int ?_
  have : decide ((d : Int) < 5) = true := decide_eq_true (by omega)
  rw [this]; exact h
theorem lt_no {d : Nat} {t u : Tok} {Q : Value → Shared → Prop} (e : ¬ d < 5) (h : Q (.bool false) s) : wpAny (model prog w) A (compareOp .Lt (.int (d : Int) t) (.int 5 u)) Q E s := by
  refine lt_int ?_
  have : decide ((d : Int) < 5) = false := decide_eq_false (by omega)
  rw [this]; exact h
theorem lt_five {d : Nat} {t u : Tok} {Q : Value → Shared → Prop} (h1 : d < 5 → Q (.bool true) s) (h0 : ¬ d < 5 → Q (.bool false) s) : wpAny (model prog w) A (compareOp .Lt (.int (d : Int) t) (.int 5 u)) Q E s := by
  by_cases e : d < 5
  · exact lt_yes e (h1 e)
  · exact lt_no e (h0 e)
theorem val_item {g : Heap} {L l : Addr} {news : List (Addr × Obj)} {value slice : PySem.Expr} {vals : List Value} {n d : Nat} {t : Tok} {Q : Value → Shared → Prop} (N : News g L s.heap news) (hm : (l, listOf vals.toArray n) ∈ news) {vb : Nat → Array UInt8} {vu : Nat → Tok} (hv : ∀ j : Nat, j < 5 → vals[j]? = some (.bytes (vb j) (vu j))) (hd : d < 5)
    (h : Q (.bytes (vb d) (vu d)) s) (hs : subscripted slice false (.ref l) (.int (d : Int) t) = operate [.ref l, .int (d : Int) t] (getItem (.ref l) (.int (d : Int) t)) := by with_unfolding_all rfl) : wpAny (model prog w) A (subscriptTail value slice (.ref l) (.int (d : Int) t)) Q E s := by
  have hl : s.heap.IsList l vals.toArray := ⟨_, (N _ hm).1, rfl, n, rfl⟩
  have e := hv d hd
  exact tail_any hl.typeIs slot_list_getitem.lookup (wpAny_getItem_list hl (by omega) (by omega) (by simpa using e) h) hs
end
theorem filter_all {α : Type} (l : List α) : l.filter (fun _ => true) = l := List.filter_eq_self.mpr fun _ _ => rfl
/-- the dict without the key, and with it again -/
theorem Rep.without {D : List (Int × Oct)} {f : Nat → Oct} {dflt : Oct} {d k : Nat} (h : Rep D f dflt 0 d) : Rep (D.filter fun p => p.1 != (k : Int)) (upd f k dflt) dflt 0 d := by
  refine ⟨fun i h1 h2 => ?_, fun j hj => ?_⟩
  · rw [look_filter (fun j => j != (k : Int))]
    by_cases e : i = k
    · subst e; simp [upd]
    · have : ((i : Int) != (k : Int)) = true := by simp; omega
      rw [if_pos this]
      unfold upd; rw [if_neg e]; exact h.1 i h1 h2
  · obtain ⟨p, hp, rfl⟩ := List.mem_map.mp hj
    exact h.2 _ (List.mem_map_of_mem (List.mem_filter.mp hp).1)
theorem upd_upd (f : Nat → Oct) (k : Nat) (a b : Oct) : upd (upd f k a) k b = upd f k b := by
  funext i; unfold upd; split <;> rfl
theorem put_keys {K : Type} [DecidableEq K] (D : List (K × Oct)) (k : K) (x : Oct) : ∀ j ∈ (put D k x).map (·.1), j = k ∨ j ∈ D.map (·.1) := by
  intro j hj
  obtain ⟨p, hp, rfl⟩ := List.mem_map.mp hj
  unfold put at hp
  split at hp
  · obtain ⟨q, hq, rfl⟩ := List.mem_map.mp hp
    right
    split
    · exact List.mem_map_of_mem (f := (·.1)) hq
    · exact List.mem_map_of_mem (f := (·.1)) hq
  · rcases List.mem_append.mp hp with hp | hp
    · right; exact List.mem_map_of_mem hp
    · left; rw [List.mem_singleton.mp hp]
theorem Rep.put {D : List (Int × Oct)} {f : Nat → Oct} {dflt v : Oct} {d k : Nat} (h : Rep D f dflt 0 d) (hk : k < 2 ^ d) : Rep (Smt.put D (k : Int) v) (upd f k v) dflt 0 d := by
  refine ⟨fun i h1 h2 => ?_, fun j hj => ?_⟩
  · by_cases e : i = k
    · subst e; rw [look_put_self]; simp [upd]
    · rw [look_put_ne _ _ (show (i : Int) ≠ (k : Int) by omega)]
      unfold upd; rw [if_neg e]; exact h.1 i h1 h2
  · rcases put_keys _ _ _ j hj with rfl | hj
    · exact ⟨by omega, by omega⟩
    · exact h.2 j hj
end -- S34a
section -- S34b
theorem upd3_rest {d1 d2 d3 : Addr} {o1 o2 o3 : Obj} : ∀ {r : List (Addr × Obj)}, (∀ p ∈ r, @Ne Nat p.1 d1 ∧ @Ne Nat p.1 d2 ∧ @Ne Nat p.1 d3) → Upd3 d1 d2 d3 o1 o2 o3 r (fun _ _ _ => r)
  | [], _ => Upd3.nil
  | p :: r, h => Upd3.skip (h p (.head _)) (upd3_rest fun q hq => h q (.tail _ hq))
theorem upd3_off {tl : List (Addr × Obj)} {l : List Nat} {d1 d2 d3 : Addr} {o1 o2 o3 : Obj} (h : Off tl l) (m1 : d1 ∈ l) (m2 : d2 ∈ l) (m3 : d3 ∈ l) : Upd3 d1 d2 d3 o1 o2 o3 tl (fun _ _ _ => tl) :=
  upd3_rest fun p hp => ⟨h p hp d1 m1, h p hp d2 m2, h p hp d3 m3⟩
structure StOk (prog : Program) (w : World) (size i : Nat) (dflt root : Array UInt8) (ot odb oh o2 o3 o4 : Obj) (ho : Addr) (T : List Oct) (D : List (Oct × Oct)) (Dh : List (Int × Oct)) (f : Nat → Oct) (ws : List Value) (tl : List (Addr × Obj)) (told : Value) : Prop where
  tbl : IsTbl prog w ot T
  tlen : T.length ≤ 100 + i * 20
  db : IsKB (bytesKind prog w) odb D
  dlen : D.length ≤ 100 + i * 20
  ok : DbOk T D
  inn : In T D (8 * size) f root.toList
  hk : IsKB (intKind prog w) oh Dh
  hlen : Dh.length ≤ i
  rep : Rep Dh f dflt.toList 0 (8 * size)
  wlen : ws.length ≤ i
  past : ∀ v ∈ ws, PastIt T D size tl v
  last : LastOk prog w T D size dflt.toList ws tl o4
  told : told = .none ∨ ∃ tq pvs n bs kl t9, told = .ref tq ∧ (tq, { cls := .type "tuple", data := .seq (List.toArray pvs) n }) ∈ tl ∧ Octs pvs bs ∧ Ons T f kl (8 * size) bs ∧ kl < 2 ^ (8 * size) ∧ o3.data = .cell (some (.int ((kl : Nat) : Int) t9))
  h4 : ∃ v, o4.data = .cell v
  h3 : ∃ v, o3.data = .cell v
  h2 : o2.data = .cell (some (.ref ho))
  loh : (ho == sysModules) = false
def loopBody : List Stmt := match lawBody.drop 12 with
  | .For _ _ b _ _ :: _ => b
  | _ => []
end -- S34b
section -- S34d
theorem inst_delItem {M : Model} {A : Around} {E : Value → Shared → Prop} {s : Shared} {K : Frag} {x C L f : Addr} {h₀ : Heap} {m : Str → Option Value} {ox : Obj} {od : Option Obj} {i : Value} {Q : Unit → Shared → Prop} (F : Fr h₀ L s.heap m) (X₀ : K.In h₀) (I : InstAt s.heap x ox C od) (hq : noSeq K C = true) (hs : findIn K (.ref C) "__delitem__" = some (some (.ref f))) (hf : isFn K (.ref f) = true)
    (h : wpAny M A (call (.ref f) [.ref x, i]) (fun _ s' => Q () s') E s) : wpAny M A (delItem (.ref x) i) Q E s := by
  have X := X₀.keeps F.keep
  unfold delItem sequenceKey
  refine wpAny_holding (wpAny_bind (wpAny_bind (I.type.here (wpAny_bind ((anyM_none X hq).here ?_)))))
  rw [if_pos (show (!false) = true from rfl)]
  exact wpAny_pure (wpAny_bind (special_fn X I hs (beq_iff_eq.mp hf) (wpAny_mono h (fun _ _ z => wpAny_pure z) fun _ _ z => z)))
theorem stok_step {prog : Program} {w : World} {size i k n : Nat} {dflt root root' key u : Array UInt8} {v : Oct} {ot odb oh o2 o3 o4 ot' odb' oh' o2' o3' o4' oe : Obj} {ho ho' q eo : Addr} {T T' : List Oct} {D D' : List (Oct × Oct)} {Dh Dh' : List (Int × Oct)} {f : Nat → Oct} {ws : List Value} {tl tl' : List (Addr × Obj)} {told told' : Value} {t1 t2 t3 t9 : Tok}
    (st : StOk prog w size i dflt root ot odb oh o2 o3 o4 ho T D Dh f ws tl told) (hi : i < 6) (hs2 : size ≤ 2) (post : SetPost prog w T T' D D' f k v size root' ot' odb') (hkey : key.size = size) (hval : value (oInts key.toList) = ((k : Nat) : Int)) (hk : k < 2 ^ (8 * size)) (hu : u.toList = f k)
    (hq : (q, tup3 root t1 key t2 u t3 n) ∈ tl') (he : (eo, oe) ∈ tl') (hqe : @Ne Nat q eo) (hsub : ∀ p ∈ tl, p ∈ tl') (loe : (eo == sysModules) = false) (hDe : IsKB (intKind prog w) oe (Dh.filter fun p => p.1 != (k : Int)))
    (d4 : o4'.data = .cell (some (.ref eo))) (d3 : o3'.data = .cell (some (.int ((k : Nat) : Int) t9))) (d2 : o2'.data = .cell (some (.ref ho'))) (loh : (ho' == sysModules) = false) (hh : IsKB (intKind prog w) oh' Dh') (hDl : Dh'.length ≤ i + 1) (hrep : Rep Dh' (upd f k v) dflt.toList 0 (8 * size))
    (htold : told' = .none ∨ ∃ tq pvs n bs, told' = .ref tq ∧ (tq, { cls := .type "tuple", data := .seq (List.toArray pvs) n }) ∈ tl' ∧ Octs pvs bs ∧ Ons T' (upd f k v) k (8 * size) bs) :
    StOk prog w size (i + 1) dflt root' ot' odb' oh' o2' o3' o4' ho' T' D' Dh' (upd f k v) (ws ++ [Value.ref q]) tl' told' := by
  obtain ⟨htbl, htl, hdb, hdl, hok, hin, hhk, hhl, hrep0, hwl, hpast, hlast, _, _, _, _, _⟩ := st
  obtain ⟨ex, htb, hdb', hok', ov, hlen, hin'⟩ := post
  have hx := ex.len
  refine ⟨htb, by omega, hdb', by omega, hok', hin', hh, hDl, hrep, by simp; omega, fun a ha => ?_, .inr ⟨ws, q, root, key, u, t1, t2, t3, n, f, k, eo, oe, _, rfl, hq, he, hqe, d4, loe, hDe, ?_, hrep0.without, hin.over ex ov, hkey, hval, hk⟩, ?_, ⟨_, d4⟩, ⟨_, d3⟩, d2, loh⟩
  · rcases List.mem_append.mp ha with ha | ha
    · exact (hpast a ha).ext ex ov hsub
    · rw [List.mem_singleton.mp ha]
      exact ⟨q, root, key, u, t1, t2, t3, n, f, k, rfl, hq, hin.over ex ov, hkey, hval, hk, hu⟩
  · exact Nat.le_trans (List.length_filter_le _ _) (by omega)
  · rcases htold with h | ⟨tq, pvs, n9, bs, h1, h2, h3, h4⟩
    · exact .inl h
    · exact .inr ⟨tq, pvs, n9, bs, k, t9, h1, h2, h3, h4, hk, d3⟩
theorem Off.pcons {tl : List (Addr × Obj)} {l : List Nat} {a : Addr} {o : Obj} (h : Apx a l) (k : Off tl l) : Off ((a, o) :: tl) l := fun p hp b hb => by
  rcases List.mem_cons.mp hp with rfl | hp
  · exact h b hb
  · exact k p hp b hb
end -- S34d
section -- S34
theorem lines_s34_1 : True := by
  w_top off
  k_with_none
  (k_with "exec Try" => (((with_reducible show wpAny _ _ (exec (Stmt.Try _ (_ :: _) _ [] _) _) _ _ _); refine wpAny_Try_except ?_)))
  (k_with "eval Name" => ((k_here; k_dflt (refine' nameX_L ?q10F ?q10v ?_ ?q10a ?q10b; (case q10a => rfl); (case q10b => rfl); (case q10F => k_asm); (case q10v => assumption); k_whole))))
  (k_with "k_ne" => (first | (refine PySem.W.neN ?_; (try dsimp only); first | exact Apx.l (by with_reducible assumption) (by k_mem) | exact Apx.r (by with_reducible assumption) (by k_mem) | exact AllNe.at1 (by with_reducible assumption) (by k_mem) | exact AllNe.at2 (by with_reducible assumption) (by k_mem) | omega)))
  (k_with "nm_c0" => ((intro hC F' N'; (try dsimp only at N'); (try k_sweep))))
  (k_with "noteFrame ref" => ((k_here; (first
  | (k_dflt (refine' catch0 (mean := _) ?q44A ?q44R ?q44F ?q44U ?q44X ?q44T ?q44c ?q44e ?_ ?q44hE ?q44hk ?q44hx ?q44hd; (case q44R => assumption); (case q44A => exact rfl); (case q44F => assumption); (case q44U => assumption); (case q44X => assumption); (case q44T => assumption)))
  | (k_dflt (refine' catch0 (mean := _) ?q44A ?q44R ?q44F ?q44U ?q44X ?q44T ?q44c ?q44e ?_ ?q44hE ?q44hk ?q44hx ?q44hd; (case q44R => exact RaisedS.toSN (by assumption)); (case q44A => exact rfl); (case q44F => assumption); (case q44U => assumption); (case q44X => assumption); (case q44T => assumption)))); (case q44c => kts_nm); (case q44e => kts_exm); (case q44hk => exact rfl); (case q44hx => exact rfl); (case q44hd => decide); (case q44hE => with_unfolding_all passes_own); k_extra "nm_c0")))
  (k_with "InitBack" => ((dsimp only [InitBack])))
  (k_with "loadName" => ((k_here; k_dflt (refine' loadX ?q45F ?q45v ?_ ?q45a ?q45b; (case q45a => rfl); (case q45b => rfl); (case q45F => k_asm); (case q45v => first | assumption | exact rfl); k_whole))))
  (k_with "z apx" => (first | exact Apx.nil _ | (refine' Apx.cons ?q50za ?q50zb; (case q50za => k_ne); (case q50zb => k_extra "z apx"))))
  (k_with "z apl" => (first | exact True.intro | (refine' And.intro ?q51za ?q51zb; (case q51za => k_extra "z apx"); (case q51zb => k_extra "z apl"))))
  (k_with "z notin" => (first | exact notin_nil | (refine' notin_cons ?q52za ?q52zb; (case q52za => k_ne); (case q52zb => k_extra "z notin"))))
  (k_with "z sub" => (first | exact Sub.nil _ | (refine' Sub.cons ?q53za ?q53zb; (case q53za => k_mem); (case q53zb => k_extra "z sub"))))
  (k_with "z hash" => ((refine' LawH.at ?q54zh ?q54zn ?q54z1 ?q54z2 ?q54z3 ?q54z4 ?q54z5 ?q54z6; (case q54zh => assumption); (case q54zn => k_asm); (case q54z1 => k_mem); (case q54z2 => k_mem); (case q54z3 => k_mem); (case q54z4 => k_extra "z notin"); (case q54z5 => k_extra "z notin"); (case q54z6 => k_extra "z notin"))))
  (k_with "z hashnew" => ((intro h1 x dx F1 N1 nx nd; refine' hashNew ?q55zh ?q55z1 ?q55z2 ?q55z3 ?q55z4 ?q55z5 ?q55z6 N1 nx nd; (case q55zh => assumption); (case q55z1 => k_mem); (case q55z2 => k_mem); (case q55z3 => k_mem); (case q55z4 => k_ne); (case q55z5 => k_ne); (case q55z6 => k_ne))))
  (k_with "z binds" => ((intro x9 s9 fd9 o9 X9 ho9 hd9; (refine' lookup_inj ho9 ?q20h29 ?_; (case q20h29 => k_is); intro h39); subst h39; cases hd9; first | exact BindsTo.of_eq rfl | exact binds_K X9 rfl (by k_is) rfl rfl rfl)))
  (k_with "z nm new" => ((intro xN dN aN rootN t1N t2N t3N t4N t5N t6N u2N u6N oN odN TN DN h' tk' F' N' nxN ndN naN neN exN htN hdN okN lenN inN; (try dsimp only at N' nxN ndN naN); (have hlN := Ext.len exN))))
  (k_with "call ref" => ((k_here; (with_reducible show wpAny _ _ (call (Value.ref 140) _ _) _ _ _); k_dflt (refine' call_new (size := 32) ?q56B ?q56F ?q56X ?q56T ?q56N ?q56c1 ?q56c2 ?q56c3 ?q56c4 ?q56hb ?q56H ?q56ot ?q56U ?q56z ?q56r ?q56lo ?q56s1 ?q56s2 ?_; (case q56F => k_asm); (case q56N => k_asm); (case q56B => k_asm); (case q56X => k_asm); (case q56T => k_asm); (case q56c1 => exact rfl); (case q56c2 => exact rfl); (case q56c3 => exact rfl); (case q56c4 => exact rfl); (case q56hb => k_extra "z binds"); (case q56H => k_extra "z hashnew"); (case q56ot => assumption); (case q56U => k_updF); (case q56z => omega); (case q56r => k_room); (case q56lo => assumption); (case q56s1 => omega); (case q56s2 => omega)); k_extra "z nm new"; (try k_sweep))))
  (k_with "z nm blanks" => ((intro lK vsK nK h' tk' oK TK F' N' nlK exK htK blK; (try dsimp only at N' nlK); (have hlK := Ext.len exK))))
  (k_with "call ref" => ((k_here; (with_reducible show wpAny _ _ (call (Value.ref 165) _ _) _ _ _); k_dflt (refine' call_blanks (d := 256) ?q57B ?q57F ?q57X ?q57T ?q57N ?q57c1 ?q57c2 ?q57c3 ?q57c4 ?q57H ?q57ot ?q57U ?q57z ?q57r ?q57dd ?q57lo ?_; (case q57F => k_asm); (case q57N => k_asm); (case q57B => k_asm); (case q57X => k_asm); (case q57T => k_asm); (case q57c1 => exact rfl); (case q57c2 => exact rfl); (case q57c3 => exact rfl); (case q57c4 => exact rfl); (case q57H => k_extra "z hash"); (case q57ot => assumption); (case q57U => k_updF); (case q57z => omega); (case q57r => k_room); (case q57dd => omega); (case q57lo => assumption)); k_extra "z nm blanks"; (try k_sweep))))
  (k_with "z nm blk" => (intro bK uK hbK))
  (k_with "subscriptTail" => ((k_here; (with_reducible show wpAny _ _ (subscriptTail _ _ (Value.ref _) (Value.int _ _)) _ _ _); k_dflt (refine' item_blk (d := 256) ?q58N ?q58m ?q58b ?q58d ?q58n ?_; (case q58N => k_asm); (case q58m => k_mem); (case q58b => assumption); (case q58d => omega); (case q58n => omega)); k_extra "z nm blk")))
  (k_with "compareOp NotEq bytes bytes" => ((k_here; refine stop ?_)))
  (k_with "z nm sc" => (intro hsc9 tkSc))
  (k_with "truthy ref" => ((k_here; k_dflt (refine' script_true ?q59F ?q59l ?q59i ?q59n ?_ ?_; (case q59F => k_asm); (case q59l => assumption); (case q59i => assumption); (case q59n => assumption)); (all_goals k_extra "z nm sc"))))
  (k_with "z nm it" => (intro nIt uIt))
  (k_with "subscriptTail" => ((k_here; (with_reducible show wpAny _ _ (subscriptTail _ _ (Value.ref _) (Value.int 0 _)) _ _ _); k_dflt (refine' script_item ?q60F ?q60l ?q60i ?q60n ?_; (case q60F => k_asm); (case q60l => assumption); (case q60i => assumption); (case q60n => assumption)); k_extra "z nm it")))
  (k_with "z upd3" => (first | exact Upd3.nil | (refine' Upd3.one ?q61a; (case q61a => k_extra "z upd3")) | (refine' Upd3.two ?q61a; (case q61a => k_extra "z upd3")) | (refine' Upd3.three ?q61a; (case q61a => k_extra "z upd3")) | (refine' Upd3.skip ?q61n ?q61a; (case q61n => (refine ⟨?_, ?_, ?_⟩ <;> k_ne)); (case q61a => k_extra "z upd3"))))
  (k_with "z upd2" => (first | exact Upd2.nil | (refine' Upd2.one ?q62a; (case q62a => k_extra "z upd2")) | (refine' Upd2.two ?q62a; (case q62a => k_extra "z upd2")) | (refine' Upd2.skip ?q62n ?q62a; (case q62n => (refine ⟨?_, ?_⟩ <;> k_ne)); (case q62a => k_extra "z upd2")) | (refine' Upd2.rest ?q62a; (case q62a => assumption))))
  (k_with "k_mem" => (((repeat (first | exact List.Mem.head _ | exact memOf (by with_reducible assumption) | refine' List.Mem.tail _ ?_)); done)))
  (k_with "k_ne" => (first | (refine PySem.W.neN ?_; (try dsimp only); first | exact Apx.l (by with_reducible assumption) (by k_mem) | exact Apx.r (by with_reducible assumption) (by k_mem) | exact AllNe.at1 (by with_reducible assumption) (by k_mem) | exact AllNe.at2 (by with_reducible assumption) (by k_mem) | exact Off.at1 (by with_reducible assumption) (by with_reducible assumption) (by k_mem) | exact Off.at2 (by with_reducible assumption) (by with_reducible assumption) (by k_mem) | with_reducible assumption | omega)))
  (k_with "k_all" => (first | exact List.forall_mem_nil _ | exact Off.all (by with_reducible assumption) (by k_mem) | (refine' List.forall_mem_cons.mpr ⟨?q65a, ?q65b⟩; (case q65a => k_ne); (case q65b => k_all))))
  (k_with "z sub" => (first | exact Sub.nil _ | (refine' Sub.cons ?q66za ?q66zb; (case q66za => k_mem); (case q66zb => k_extra "z sub")) | (repeat (first | exact Sub.refl _ | refine' Sub.skip ?_))))
  (k_with "exec For Tuple Name cons nil" => (refine stop ?_))
  (k_with "pyIter ref" => (refine stop ?_))
  (k_with "call ref" => ((k_here; (with_reducible show wpAny _ _ (call (Value.ref 184) _ _) _ _ _); refine stop ?_)))
  (k_with "execs cons" => (((with_reducible show wpAny _ _ (execs (Stmt.If _ _ _ ⟨211, _, _, _⟩ :: _) _) _ _ _); refine stop ?_)))
  (k_with "assign Tuple" => ((k_here; (with_reducible show wpAny _ _ (assign (Expr.Tuple _ _ _) _ (Value.ref _)) _ _ _); k_dflt (refine' unpackN_ ?q67F ?q67N ?q67T ?q67k1 ?q67k2 ?q67k3 ?_; (case q67F => with_reducible assumption); (case q67N => with_reducible assumption); (case q67T => exact News.isTup (by with_reducible assumption) (by k_mem)); (case q67k1 => exact rfl); (case q67k2 => exact rfl); (case q67k3 => exact rfl)); intro h' F' N'; (try k_sweep))))
  (k_with "z msub" => (first | exact mnil | (refine' mcons ?q68za ?q68zb; (case q68za => k_mem); (case q68zb => k_extra "z msub"))))
  (k_with "z nm key" => (intro keyK tK tkK hkS hkV))
  (k_with "call builtin:int.to_bytes" => ((k_here; k_dflt (with_unfolding_all refine' to_key ?q69a ?q69b ?_; (case q69a => omega); (case q69b => assumption)); k_extra "z nm key")))
  (k_with "getMethod ref" => ((k_here; (with_reducible show wpAny _ _ (getMethod (Value.ref _) (Str.ofString "get") _) _ _ _); k_dflt (refine' get_dict ?q70N ?q70p ?q70x ?_; (case q70N => k_asm); (case q70p => k_mem); (case q70x => exact IsKB.exact (knd := intKind _ _) (by with_reducible assumption))))))
  (k_with "z nm get" => (intro bG uG tkG hbG))
  (k_with "call builtin:dict.get" => ((k_here; k_dflt (refine' rep_get ?q71N ?q71p ?q71d ?q71lo ?q71r ?q71k ?_; (case q71N => k_asm); (case q71p => k_mem); (case q71d => with_reducible assumption); (case q71lo => with_reducible assumption); (case q71r => with_reducible assumption); (case q71k => with_reducible assumption)); k_extra "z nm get")))
  (k_with "compareOp Eq bytes bytes" => ((k_here; refine eq_nil (by with_reducible assumption) ?_)))
  (k_with "compareOp NotEq bytes bytes" => ((k_here; refine ne_nil (by with_reducible assumption) ?_)))
  (k_with "z nm br" => ((first | ((with_reducible show BadK _); unfold BadK; intro eP gP hP tkP hpP RP UP FP; (try dsimp only)) | (intro qB bvB bsB nB h' tkB F' N' nqB hoB hsB hpB; (try k_sweep)))))
  (k_with "call ref" => ((k_here; (with_reducible show wpAny _ _ (call (Value.ref 81) [Value.ref _, Value.bytes _ _]) _ _ _); k_dflt (refine' call_branch ?q72B ?q72F ?q72X ?q72T ?q72XB ?q72TB ?q72D ?q72N ?q72c1 ?q72c2 ?q72c3 ?q72c4 ?q72m1 ?q72m2 ?q72m3 ?q72ne ?q72r ?q72s1 ?q72s2 ?q72ky ?q72hp ?q72hp2 ?q72db ?q72hin ?_ ?_; (case q72F => k_asm); (case q72N => k_asm); (case q72B => k_asm); (case q72X => k_asm); (case q72T => k_asm); (case q72D => exact ktsDicts_nil); (case q72XB => assumption); (case q72TB => assumption); (case q72c1 => exact rfl); (case q72c2 => exact rfl); (case q72c3 => exact rfl); (case q72c4 => exact rfl); (case q72m1 => k_mem); (case q72m2 => k_mem); (case q72m3 => k_mem); (case q72ne => (refine ⟨?_, ?_, ?_⟩ <;> k_ne)); (case q72r => k_room); (case q72s1 => omega); (case q72s2 => omega); (case q72ky => with_reducible assumption); (case q72hp => with_reducible assumption); (case q72hp2 => with_reducible assumption); (case q72db => with_reducible assumption); (case q72hin => with_reducible assumption)); (all_goals (k_extra "z nm br")))))
  (k_with "call ref" => ((k_here; (with_reducible show wpAny _ _ (call (Value.ref 177) _ _) _ _ _); refine stop ?_)))
  (k_with "execs cons" => (((with_reducible show wpAny _ _ (execs (Stmt.For _ _ _ _ ⟨208, _, _, _⟩ :: _) _) _ _ _); refine stop ?_)))
  (k_with "compareOp NotEq ref ref" => ((k_here; (with_reducible show wpAny _ _ (compareOp CmpOp.NotEq (Value.ref _) (Value.ref _)) _ _ _); refine stop ?_)))
  (k_with "subscriptTail" => ((k_here; (with_reducible show wpAny _ _ (subscriptTail _ _ (Value.ref _) (Value.int 1 _)) _ _ _); k_dflt (refine' pair1 ?q73N ?q73m ?_; (case q73N => with_reducible assumption); (case q73m => k_mem); k_whole))))
  (k_with "subscriptTail" => ((k_here; (with_reducible show wpAny _ _ (subscriptTail _ _ (Value.ref _) (Value.int 0 _)) _ _ _); k_dflt (refine' pair0 ?q74N ?q74m ?_; (case q74N => with_reducible assumption); (case q74m => k_mem); k_whole))))
  (k_with "z nm num" => ((intro kN uN hN tkN F' N' hkN; (try k_sweep))))
  (k_with "call ref" => ((k_here; (with_reducible show wpAny _ _ (call (Value.ref 158) _ _) _ _ _); k_dflt (refine' call_num ?q75B ?q75F ?q75X ?q75T ?q75N ?q75c1 ?q75c2 ?q75c3 ?q75c4 ?q75r ?q75s1 ?q75s2 ?_; (case q75F => k_asm); (case q75N => k_asm); (case q75B => k_asm); (case q75X => k_asm); (case q75T => k_asm); (case q75c1 => exact rfl); (case q75c2 => exact rfl); (case q75c3 => exact rfl); (case q75c4 => exact rfl); (case q75r => k_room); (case q75s1 => omega); (case q75s2 => omega)); k_extra "z nm num")))
  (k_with "truthy ref" => ((k_here; k_dflt (refine' script_true ?q76F ?q76l ?q76i ?q76n ?_ ?_; (case q76F => k_asm); (case q76l => with_reducible assumption); (case q76i => with_reducible assumption); (case q76n => with_reducible assumption)); (all_goals k_extra "z nm sc"))))
  (k_with "subscriptTail" => ((k_here; (with_reducible show wpAny _ _ (subscriptTail _ _ (Value.ref _) (Value.int 0 _)) _ _ _); k_dflt (refine' script_item ?q77F ?q77l ?q77i ?q77n ?_; (case q77F => k_asm); (case q77l => with_reducible assumption); (case q77i => with_reducible assumption); (case q77n => with_reducible assumption)); k_extra "z nm it")))
  (k_with "execs cons" => (((with_reducible show wpAny _ _ (execs (Stmt.Try _ _ _ _ ⟨201, _, _, _⟩ :: _) _) _ _ _); refine stop ?_)))
  (k_with "z upd3" => (first | exact Upd3.nil | exact upd3_off (by with_reducible assumption) (by k_mem) (by k_mem) (by k_mem) | (refine' Upd3.one ?q82a; (case q82a => k_extra "z upd3")) | (refine' Upd3.two ?q82a; (case q82a => k_extra "z upd3")) | (refine' Upd3.three ?q82a; (case q82a => k_extra "z upd3")) | (refine' Upd3.skip ?q82n ?q82a; (case q82n => (refine ⟨?_, ?_, ?_⟩ <;> k_ne)); (case q82a => k_extra "z upd3"))))
  (k_with "z nm mod" => (intro dM tM tkM hdM))
  (k_with "z nm mod2" => (intro dP tP tkP hdP))
  (k_with "binaryOp Mod int int" => ((k_here; first
  | ((with_reducible show wpAny _ _ (binaryOp _ _ (Value.int 7 _)) _ _ _); k_dflt (refine' mod_nat 7 (by decide) ?_); k_extra "z nm mod")
  | ((with_reducible show wpAny _ _ (binaryOp _ _ (Value.int 2 _)) _ _ _); k_dflt (refine' mod_nat 2 (by decide) ?_); k_extra "z nm mod2"))))
  (k_with "z nm par" => ((intro hpar)))
  (k_with "compareOp Eq int int" => ((k_here; refine eq_par ?_ ?_ <;> k_extra "z nm par")))
  (k_with "z nm five" => ((intro h5d)))
  (k_with "compareOp Lt int int" => ((k_here; first | refine lt_yes (by with_reducible assumption) ?_ | refine lt_no (by with_reducible assumption) ?_ | (refine lt_five ?_ ?_ <;> k_extra "z nm five"))))
  (k_with "z nm val" => ((intro bV uV)))
  (k_with "subscriptTail" => ((k_here; (with_reducible show wpAny _ _ (subscriptTail _ _ (Value.ref _) (Value.int _ _)) _ _ _); k_dflt (refine' val_item ?q83N ?q83m ?q83v ?q83d ?_; (case q83N => with_reducible assumption); (case q83m => k_mem); (case q83v => with_reducible assumption); (case q83d => with_reducible assumption)))))
  (k_with "exec Assign cons DictComp" => (refine stop ?_))
  (k_with "z nm set" => ((intro rS pvS bsS rootS n6S nS oS odS TS DS h' tk' F' N' nrS hoS onS hpS; (try dsimp only at N' nrS))))
  (k_with "z nm sit" => ((intro rootS n6S oS odS TS DS h' tk' F' N' hpS; (try dsimp only at N'))))
  (k_with "call ref" => ((k_here; (with_reducible show wpAny _ _ (call (Value.ref 95) _ _) _ _ _); k_dflt (refine' call_set ?q84B ?q84F ?q84X ?q84T ?q84N ?q84c1 ?q84c2 ?q84c3 ?q84c4 ?q84m1 ?q84m2 ?q84m3 ?q84m4 ?q84U ?q84ne ?q84r ?q84s1 ?q84s2 ?q84ky ?q84hp ?q84hp2 ?q84db ?q84H ?q84ot ?q84z ?q84zd ?q84lo ?q84ok ?q84hin ?_; (case q84F => k_asm); (case q84N => k_asm); (case q84B => k_asm); (case q84X => k_asm); (case q84T => k_asm); (case q84c1 => exact rfl); (case q84c2 => exact rfl); (case q84c3 => exact rfl); (case q84c4 => exact rfl); (case q84m1 => k_mem); (case q84m2 => k_mem); (case q84m3 => k_mem); (case q84H => k_extra "z hash"); (case q84ot => with_reducible assumption); (case q84m4 => k_mem); (case q84U => k_extra "z upd3"); (case q84ne => (refine ⟨?_, ?_, ?_, ?_, ?_, ?_⟩ <;> k_ne)); (case q84r => k_room); (case q84s1 => omega); (case q84s2 => omega); (case q84ky => with_reducible assumption); (case q84hp => with_reducible assumption); (case q84hp2 => with_reducible assumption); (case q84db => with_reducible assumption); (case q84z => omega); (case q84zd => omega); (case q84lo => with_reducible assumption); (case q84ok => with_reducible assumption); (case q84hin => with_reducible assumption)); k_extra "z nm set"; (try k_sweep))))
  (k_with "call ref" => ((k_here; (with_reducible show wpAny _ _ (call (Value.ref 109) _ _) _ _ _); k_dflt (refine' call_delete ?q85B ?q85F ?q85X ?q85T ?q85N ?q85c1 ?q85c2 ?q85c3 ?q85c4 ?q85m1 ?q85m2 ?q85m3 ?q85m4 ?q85U ?q85ne ?q85r ?q85s1 ?q85s2 ?q85ky ?q85hp ?q85hp2 ?q85db ?q85H ?q85ot ?q85z ?q85zd ?q85lo ?q85ok ?q85hin ?_; (case q85F => k_asm); (case q85N => k_asm); (case q85B => k_asm); (case q85X => k_asm); (case q85T => k_asm); (case q85c1 => exact rfl); (case q85c2 => exact rfl); (case q85c3 => exact rfl); (case q85c4 => exact rfl); (case q85m1 => k_mem); (case q85m2 => k_mem); (case q85m3 => k_mem); (case q85H => k_extra "z hash"); (case q85ot => with_reducible assumption); (case q85m4 => k_mem); (case q85U => k_extra "z upd3"); (case q85ne => (refine ⟨?_, ?_, ?_, ?_, ?_, ?_⟩ <;> k_ne)); (case q85r => k_room); (case q85s1 => omega); (case q85s2 => omega); (case q85ky => with_reducible assumption); (case q85hp => with_reducible assumption); (case q85hp2 => with_reducible assumption); (case q85db => with_reducible assumption); (case q85z => omega); (case q85zd => omega); (case q85lo => with_reducible assumption); (case q85ok => with_reducible assumption); (case q85hin => with_reducible assumption)); k_extra "z nm set"; (try k_sweep))))
  (k_with "call ref" => ((k_here; (with_reducible show wpAny _ _ (call (Value.ref 123) _ _) _ _ _); k_dflt (refine' call_setitem ?q86B ?q86F ?q86X ?q86T ?q86N ?q86c1 ?q86c2 ?q86c3 ?q86c4 ?q86m1 ?q86m2 ?q86m3 ?q86m4 ?q86U ?q86ne ?q86r ?q86s1 ?q86s2 ?q86ky ?q86hp ?q86hp2 ?q86db ?q86H ?q86ot ?q86z ?q86zd ?q86lo ?q86ok ?q86hin ?_; (case q86F => k_asm); (case q86N => k_asm); (case q86B => k_asm); (case q86X => k_asm); (case q86T => k_asm); (case q86c1 => exact rfl); (case q86c2 => exact rfl); (case q86c3 => exact rfl); (case q86c4 => exact rfl); (case q86m1 => k_mem); (case q86m2 => k_mem); (case q86m3 => k_mem); (case q86H => k_extra "z hash"); (case q86ot => with_reducible assumption); (case q86m4 => k_mem); (case q86U => k_extra "z upd3"); (case q86ne => (refine ⟨?_, ?_, ?_, ?_, ?_, ?_⟩ <;> k_ne)); (case q86r => k_room); (case q86s1 => omega); (case q86s2 => omega); (case q86ky => with_reducible assumption); (case q86hp => with_reducible assumption); (case q86hp2 => with_reducible assumption); (case q86db => with_reducible assumption); (case q86z => omega); (case q86zd => omega); (case q86lo => with_reducible assumption); (case q86ok => with_reducible assumption); (case q86hin => with_reducible assumption)); k_extra "z nm sit"; (try k_sweep))))
  (k_with "call ref" => ((k_here; (with_reducible show wpAny _ _ (call (Value.ref 130) _ _) _ _ _); k_dflt (refine' call_delitem ?q87B ?q87F ?q87X ?q87T ?q87N ?q87c1 ?q87c2 ?q87c3 ?q87c4 ?q87m1 ?q87m2 ?q87m3 ?q87m4 ?q87U ?q87ne ?q87r ?q87s1 ?q87s2 ?q87ky ?q87hp ?q87hp2 ?q87db ?q87H ?q87ot ?q87z ?q87zd ?q87lo ?q87ok ?q87hin ?_; (case q87F => k_asm); (case q87N => k_asm); (case q87B => k_asm); (case q87X => k_asm); (case q87T => k_asm); (case q87c1 => exact rfl); (case q87c2 => exact rfl); (case q87c3 => exact rfl); (case q87c4 => exact rfl); (case q87m1 => k_mem); (case q87m2 => k_mem); (case q87m3 => k_mem); (case q87H => k_extra "z hash"); (case q87ot => with_reducible assumption); (case q87m4 => k_mem); (case q87U => k_extra "z upd3"); (case q87ne => (refine ⟨?_, ?_, ?_, ?_, ?_, ?_⟩ <;> k_ne)); (case q87r => k_room); (case q87s1 => omega); (case q87s2 => omega); (case q87ky => with_reducible assumption); (case q87hp => with_reducible assumption); (case q87hp2 => with_reducible assumption); (case q87db => with_reducible assumption); (case q87z => omega); (case q87zd => omega); (case q87lo => with_reducible assumption); (case q87ok => with_reducible assumption); (case q87hin => with_reducible assumption)); k_extra "z nm sit"; (try k_sweep))))
  (k_with "z cmp" => ((intro C k t s3 m3 E3 hk3 hn3 hm3 hup3; refine' tests_cmp ?q88a ?q88b ?q88c ?q88e ?q88f ?q88g hn3 hm3 ?q88h ?q88i ?q88j ?q88k; (case q88a => with_unfolding_all rfl); (case q88b => with_unfolding_all rfl); (case q88c => with_unfolding_all rfl); (case q88e => with_unfolding_all rfl); (case q88f => (refine' hup3 _ _ (News.get ?q88n ?q88mm); (case q88n => k_asm); (case q88mm => k_mem))); (case q88g => k_asm); (case q88h => decide); (case q88i => decide); (case q88j => exact fun h => ne_int h); (case q88k => with_unfolding_all rfl))))
  (k_with "z nm sub" => ((intro aD h' oD tk' F' N' l1 hD loD; (have hALD := allLt_of l1))))
  (k_with "z dsub" => (((case hh => exact rfl); (case big => exact Top.nolimit (by k_asm)); (case clos => with_unfolding_all rfl); (case cell => decide); (case kind => exact rfl); (case names => decide); (case x => exact rfl); (case dc => with_unfolding_all rfl); (case cm => k_mem); (case cd => with_reducible assumption); (case m => k_mem); (case d => with_reducible assumption); (case lo => with_reducible assumption); (case z => omega); (case dk => (intro C; with_unfolding_all rfl)); (case bx => decide); (case bd => decide); (case it => (refine' nameX_C ?q89yn ?q89yc ?q89ym ?q89yd ?q89yq ?q89y1 ?q89y2 ?q89y3; (case q89yn => k_asm); (case q89yc => with_unfolding_all rfl); (case q89ym => k_mem); (case q89yd => with_reducible assumption); (case q89yq => exact ⟨rfl, rfl⟩); (case q89y1 => with_unfolding_all rfl); (case q89y2 => with_unfolding_all rfl); (case q89y3 => decide))))))
  (k_with "delItem ref" => ((k_here; (with_reducible show wpAny _ _ (delItem (Value.ref _) _) _ _ _); k_dflt (refine' inst_delItem ?q90F ?q90X ?q90I ?q90hQ ?q90hS ?q90hF ?_; (case q90F => k_asm); (case q90X => k_asm); (case q90I => k_inst); (case q90hS => k_is); (case q90hF => k_is); (case q90hQ => k_is); k_whole))))
  (k_with "setItem ref int" => ((k_here; (with_reducible show wpAny _ _ (setItem (Value.ref _) (Value.int _ _) (Value.bytes _ _)) _ _ _); refine stop ?_)))
  (k_with "subscriptTail Name Name ref int" => ((k_here; (with_reducible show wpAny _ _ (subscriptTail _ _ (Value.ref _) (Value.int _ _)) _ _ _); k_dflt (refine' val_item ?q83N ?q83m ?q83v ?q83d ?_; (case q83N => with_reducible assumption); (case q83m => k_mem); (case q83v => with_reducible assumption); (case q83d => with_reducible assumption)))))
  trivial
section
variable {prog : Program} {w : World} {g : Heap} {L fn : Addr} {s : Shared} {h : Heap} {tk : Nat} {m : Str → Option Value} {P : Flow → Shared → Prop} {E1 : Value → Shared → Prop} {fa x dx da ta ca c5 sc pa bl ho va I Dl : Addr} {ofa oca ocl ot odb o1 o2 o3 o4 oh oI oDl : Obj} {ps : Array Value}
  {p : Program} {loose : List Str} {mean : ExcName → Option Value} {mg mb : Str → Option Value} {t1 t2 t3 t4 t5 t6 u1 u2 u3 u6 us ud ut tn : Tok} {size np nv nva i : Nat} {n : Int} {dflt root : Array UInt8} {T : List Oct} {D : List (Oct × Oct)} {Dh : List (Int × Oct)} {ws vs vals : List Value} {tl : List (Addr × Obj)} {f : Nat → Oct} {told : Value} {vb : Nat → Array UInt8} {vu : Nat → Tok}
set_option maxHeartbeats 4000000 in
theorem loop_turn (B : Below callerA g [] g) (X : (hd0.heap_1 w.params).In g) (TT : Top p loose mean mg mb g) (F : Fr g L h m)
    (N : News g L h ((I, oI) :: (Dl, oDl) :: (x, instObj 140 dx) :: (dx, dictOf (treeEs w t1 t2 t3 t4 t5 t6 (.int size u1) (.int (8 * size : Int) u2) (.bytes dflt u3) (.ref fa) (.ref da) (.bytes root u6)) 6) :: (da, odb) :: (ho, oh) :: (pa, listOf ws.toArray np) :: (va, listOf vals.toArray nva) :: (bl, listOf vs.toArray nv) :: (fa, ofa) :: (ca, oca) :: (c5, ocl) :: (ta, ot) :: (L + 1 + 1 + 1 + 1, o4) :: (L + 1 + 1 + 1, o3) :: (L + 1 + 1, o2) :: (L + 1, o1) :: (186, tabObj ps) :: tl))
    (hA : ApL [I, Dl, x, dx, da, ho, pa, va, bl, fa, ca, c5, ta, L + 1 + 1 + 1 + 1, L + 1 + 1 + 1, L + 1 + 1, L + 1, 186]) (hOff : Off tl [I, Dl, x, dx, da, ho, pa, va, bl, fa, ca, c5, ta, L + 1 + 1 + 1 + 1, L + 1 + 1 + 1, L + 1 + 1, L + 1, 186]) (H : LawH ofa oca ocl ca c5 ta) (lo : (ta == sysModules) = false)
    (hst : StOk prog w size i dflt root ot odb oh o2 o3 o4 ho T D Dh f ws tl told) (hi : i < 6) (hvals : ∀ j : Nat, j < 5 → vals[j]? = some (.bytes (vb j) (vu j))) (hd1 : o1.data = .cell (some (.int ((8 * size : Nat) : Int) ut)))
    (hs1 : 1 ≤ size) (hs2 : size ≤ 2) (hm1 : m "_law_hash" = some (.ref fa)) (hm2 : m "tree" = some (.ref x)) (hm3 : m "script" = some (.ref sc)) (hm4 : m "past" = some (.ref pa)) (hm5 : m "size" = some (.int (size : Int) us)) (hm6 : m "default" = some (.bytes dflt ud)) (hm7 : m "blanks" = some (.ref bl)) (hm8 : m "values" = some (.ref va)) (hm9 : m "number" = some (.int n tn))
    (hEnd : ∀ h' tk' m' root' n6' odb' ot' ho' oh' np' ws' o4' o3' o2' T' D' Dh' f' tl' told', Fr g L h' m' → News g L h' ((I, oI) :: (Dl, oDl) :: (x, instObj 140 dx) :: (dx, dictOf (treeEs w t1 t2 t3 t4 t5 t6 (.int size u1) (.int (8 * size : Int) u2) (.bytes dflt u3) (.ref fa) (.ref da) (.bytes root' n6')) 6) :: (da, odb') :: (ho', oh') :: (pa, listOf (List.toArray ws') np') :: (va, listOf vals.toArray nva) :: (bl, listOf vs.toArray nv) :: (fa, ofa) :: (ca, oca) :: (c5, ocl) :: (ta, ot') :: (L + 1 + 1 + 1 + 1, o4') :: (L + 1 + 1 + 1, o3') :: (L + 1 + 1, o2') :: (L + 1, o1) :: (186, tabObj ps) :: tl') → ApL [I, Dl, x, dx, da, ho', pa, va, bl, fa, ca, c5, ta, L + 1 + 1 + 1 + 1, L + 1 + 1 + 1, L + 1 + 1, L + 1, 186] → Off tl' [I, Dl, x, dx, da, ho', pa, va, bl, fa, ca, c5, ta, L + 1 + 1 + 1 + 1, L + 1 + 1 + 1, L + 1 + 1, L + 1, 186] → StOk prog w size (i + 1) dflt root' ot' odb' oh' o2' o3' o4' ho' T' D' Dh' f' ws' tl' told' → Ext (8 * size + 1) T T' →
      m' "_law_hash" = some (.ref fa) ∧ m' "tree" = some (.ref x) ∧ m' "script" = some (.ref sc) ∧ m' "past" = some (.ref pa) ∧ m' "size" = some (.int (size : Int) us) ∧ m' "default" = some (.bytes dflt ud) ∧ m' "blanks" = some (.ref bl) ∧ m' "values" = some (.ref va) ∧ m' "told" = some told' → P .next { s with heap := h', toks := tk' }) :
    wpAny (model prog w) (callerA.deeper (lawEnv L fn)) (execs loopBody (lawEnv L fn)) P (fun e s' => wpAny (model prog w) (callerA.deeper (lawEnv L fn)) (leaving (lawEnv L fn) e) (fun _ s'' => E1 e s'') (fun e' s'' => E1 e' s'') s') { s with heap := h, toks := tk } := by
  conv in (execs loopBody _) => arg 1; whnf
  obtain ⟨a1, a2, a3, a4, a5, a6, a7, a8, a9, a10, a11, a12, a13, a14, a15, a16, a17, _⟩ := hA
  have hst0 := hst
  obtain ⟨htbl, htl, hdb, hdl, hok, hin, hhk, hhl, hrep, hwl, hpast, hlast, htold, ⟨v4, h4⟩, ⟨v3, h3⟩, h2, loh⟩ := hst
  have hwl2 : ws.length ≤ 100 := by omega
  k_steps
  unfold Stop
  with_reducible rename Fr _ _ _ _ => F1
  with_reducible rename News _ _ _ _ => N1
  refine pick1 N1 fun q hq => ?_
  subst hq
  refine wpAny_Assign_Name ?_
  refine' dict_sub (pz := fun j => j != (kN : Int)) F1 N1 ?hh ?big ?clos ?cell ?kind ?names ?x ?m ?d ?lo ?z ?dk ?dc ?cm ?cd ?bx ?bd ?tests ?it ?_
  k_extra "z dsub"
  case tests => k_extra "z cmp"
  intro eo h' oe tk' F' N' l1 hDe loe
  have hALe := allLt_of l1
  have hfl : (Dh.filter fun p => p.1 != (kN : Int)).length ≤ Dh.length := List.length_filter_le _ _
  k_lt l1
  clear F1 N1
  k_steps
  · unfold Stop
    with_reducible rename Fr _ _ _ _ => F2
    with_reducible rename News _ _ _ _ => N2
    refine wpAny_Assign_Name ?_
    refine' dict_sub (pz := fun _ => true) F2 N2 ?hh ?big ?clos ?cell ?kind ?names ?x ?m ?d ?lo ?z ?dk ?dc ?cm ?cd ?bx ?bd ?tests ?it ?_
    k_extra "z dsub"
    case tests => exact fun C k t s3 m3 E3 _ _ _ _ => wpAny_tests_nil ⟨rfl, s3.heap, s3.toks, rfl, fun _ _ e => e⟩
    intro aH h' oH tk' F' N' l1 hDh loH
    simp only [filter_all] at hDh
    have hALh := allLt_of l1
    k_lt l1
    clear F2 N2
    k_steps
    with_reducible rename Fr _ _ _ _ => F3
    with_reducible rename News _ _ _ _ => N3
    unfold Stop
    refine' kb_set (knd := intKind _ _) F3 N3 ?qU hDh (intKind_is _ _ _ _) ?qz ?_
    case qU => k_updF
    case qz => (simp only [sizeLine_eq]; omega)
    intro h' oH2 F' N' hDh2
    try dsimp only at N'
    clear F3 N3
    k_steps
    with_reducible rename Fr _ _ _ _ => F9
    with_reducible rename News _ _ _ _ => N9
    simp only [List.push_toArray] at N9
    have offL : ∀ p ∈ tl, p.1 ≠ aH := fun p hp => Nat.ne_of_lt (AllLt.all hALh p (by repeat (first | exact hp | refine' List.Mem.tail _ ?_)))
    have hqe : @Ne Nat q eo := by k_ne
    exact hEnd _ _ _ rootS n6S odS oS aH oH2 _ (ws ++ [Value.ref q]) _ _ _ TS DS _ (upd f kN (vb dM).toList) ((rS, { cls := .type "tuple", data := .seq (List.toArray pvS) nS }) :: (q, tup3 root _ keyK _ bG _ _) :: (eo, oe) :: tl) (.ref rS) F9 (newsSub (l := (I, oI) :: (Dl, oDl) :: (x, _) :: (dx, _) :: (da, odS) :: (aH, oH2) :: (pa, _) :: (va, _) :: (bl, _) :: (fa, ofa) :: (ca, oca) :: (c5, ocl) :: (ta, oS) :: (L + 1 + 1 + 1 + 1, _) :: (L + 1 + 1 + 1, _) :: (L + 1 + 1, _) :: (L + 1, o1) :: (186, tabObj ps) :: (rS, { cls := .type "tuple", data := .seq (List.toArray pvS) nS }) :: (q, tup3 root _ keyK _ bG _ _) :: (eo, oe) :: tl) N9 (by k_extra "z sub")) (by k_extra "z apl") (Off.pcons (by k_extra "z apx") (Off.pcons (by k_extra "z apx") (Off.pcons (by k_extra "z apx") (Off.mono (Off.cons offL hOff) (by k_extra "z msub"))))) (stok_step hst0 hi hs2 hpS hkS hkV hkN hbG (.tail _ (.head _)) (.tail _ (.tail _ (.head _))) hqe (fun a ha => .tail _ (.tail _ (.tail _ ha))) loe hDe (by with_reducible assumption) (by with_reducible assumption) (by with_reducible assumption) loH hDh2 (Nat.le_trans (put_length _ _ _) (by omega)) (by have z := (hrep.without (k := kN)).put (v := (vb dM).toList) hkN; rw [upd_upd] at z; exact z) (.inr ⟨rS, pvS, nS, bsS, rfl, .head _, hoS, onS⟩)) hpS.1 ⟨hm1, hm2, hm3, hm4, hm5, hm6, hm7, hm8, rfl⟩
  · unfold Stop
    with_reducible rename Fr _ _ _ _ => F2
    with_reducible rename News _ _ _ _ => N2
    refine wpAny_Assign_Name ?_
    refine' dict_sub (pz := fun _ => true) F2 N2 ?hh ?big ?clos ?cell ?kind ?names ?x ?m ?d ?lo ?z ?dk ?dc ?cm ?cd ?bx ?bd ?tests ?it ?_
    k_extra "z dsub"
    case tests => exact fun C k t s3 m3 E3 _ _ _ _ => wpAny_tests_nil ⟨rfl, s3.heap, s3.toks, rfl, fun _ _ e => e⟩
    intro aH h' oH tk' F' N' l1 hDh loH
    simp only [filter_all] at hDh
    have hALh := allLt_of l1
    k_lt l1
    clear F2 N2
    k_steps
    with_reducible rename Fr _ _ _ _ => F9
    with_reducible rename News _ _ _ _ => N9
    simp only [List.push_toArray] at N9
    have offL : ∀ p ∈ tl, p.1 ≠ aH := fun p hp => Nat.ne_of_lt (AllLt.all hALh p (by repeat (first | exact hp | refine' List.Mem.tail _ ?_)))
    have hqe : @Ne Nat q eo := by k_ne
    exact hEnd _ _ _ rootS n6S odS oS aH oH _ (ws ++ [Value.ref q]) _ _ _ TS DS _ (upd f kN dflt.toList) ((rS, { cls := .type "tuple", data := .seq (List.toArray pvS) nS }) :: (q, tup3 root _ keyK _ bG _ _) :: (eo, oe) :: tl) (.ref rS) F9 (newsSub (l := (I, oI) :: (Dl, oDl) :: (x, _) :: (dx, _) :: (da, odS) :: (aH, oH) :: (pa, _) :: (va, _) :: (bl, _) :: (fa, ofa) :: (ca, oca) :: (c5, ocl) :: (ta, oS) :: (L + 1 + 1 + 1 + 1, _) :: (L + 1 + 1 + 1, _) :: (L + 1 + 1, _) :: (L + 1, o1) :: (186, tabObj ps) :: (rS, { cls := .type "tuple", data := .seq (List.toArray pvS) nS }) :: (q, tup3 root _ keyK _ bG _ _) :: (eo, oe) :: tl) N9 (by k_extra "z sub")) (by k_extra "z apl") (Off.pcons (by k_extra "z apx") (Off.pcons (by k_extra "z apx") (Off.pcons (by k_extra "z apx") (Off.mono (Off.cons offL hOff) (by k_extra "z msub"))))) (stok_step hst0 hi hs2 hpS hkS hkV hkN hbG (.tail _ (.head _)) (.tail _ (.tail _ (.head _))) hqe (fun a ha => .tail _ (.tail _ (.tail _ ha))) loe hDe (by with_reducible assumption) (by with_reducible assumption) (by with_reducible assumption) loH hDh (by omega) hrep.without (.inr ⟨rS, pvS, nS, bsS, rfl, .head _, hoS, onS⟩)) hpS.1 ⟨hm1, hm2, hm3, hm4, hm5, hm6, hm7, hm8, rfl⟩
  · unfold Stop
    with_reducible rename Fr _ _ _ _ => F2
    with_reducible rename News _ _ _ _ => N2
    refine wpAny_Assign_Name ?_
    refine' dict_sub (pz := fun _ => true) F2 N2 ?hh ?big ?clos ?cell ?kind ?names ?x ?m ?d ?lo ?z ?dk ?dc ?cm ?cd ?bx ?bd ?tests ?it ?_
    k_extra "z dsub"
    case tests => exact fun C k t s3 m3 E3 _ _ _ _ => wpAny_tests_nil ⟨rfl, s3.heap, s3.toks, rfl, fun _ _ e => e⟩
    intro aH h' oH tk' F' N' l1 hDh loH
    simp only [filter_all] at hDh
    have hALh := allLt_of l1
    k_lt l1
    clear F2 N2
    k_steps
    with_reducible rename Fr _ _ _ _ => F3
    with_reducible rename News _ _ _ _ => N3
    unfold Stop
    refine' kb_set (knd := intKind _ _) F3 N3 ?qU hDh (intKind_is _ _ _ _) ?qz ?_
    case qU => k_updF
    case qz => (simp only [sizeLine_eq]; omega)
    intro h' oH2 F' N' hDh2
    try dsimp only at N'
    clear F3 N3
    k_steps
    with_reducible rename Fr _ _ _ _ => F9
    with_reducible rename News _ _ _ _ => N9
    simp only [List.push_toArray] at N9
    have offL : ∀ p ∈ tl, p.1 ≠ aH := fun p hp => Nat.ne_of_lt (AllLt.all hALh p (by repeat (first | exact hp | refine' List.Mem.tail _ ?_)))
    have hqe : @Ne Nat q eo := by k_ne
    exact hEnd _ _ _ rootS n6S odS oS aH oH2 _ (ws ++ [Value.ref q]) _ _ _ TS DS _ (upd f kN (vb dM).toList) ((q, tup3 root _ keyK _ bG _ _) :: (eo, oe) :: tl) .none F9 (newsSub (l := (I, oI) :: (Dl, oDl) :: (x, _) :: (dx, _) :: (da, odS) :: (aH, oH2) :: (pa, _) :: (va, _) :: (bl, _) :: (fa, ofa) :: (ca, oca) :: (c5, ocl) :: (ta, oS) :: (L + 1 + 1 + 1 + 1, _) :: (L + 1 + 1 + 1, _) :: (L + 1 + 1, _) :: (L + 1, o1) :: (186, tabObj ps) :: (q, tup3 root _ keyK _ bG _ _) :: (eo, oe) :: tl) N9 (by k_extra "z sub")) (by k_extra "z apl") (Off.pcons (by k_extra "z apx") (Off.pcons (by k_extra "z apx") (Off.mono (Off.cons offL hOff) (by k_extra "z msub")))) (stok_step hst0 hi hs2 hpS hkS hkV hkN hbG (.head _) (.tail _ (.head _)) hqe (fun a ha => .tail _ (.tail _ ha)) loe hDe (by with_reducible assumption) (by with_reducible assumption) (by with_reducible assumption) loH hDh2 (Nat.le_trans (put_length _ _ _) (by omega)) (by have z := (hrep.without (k := kN)).put (v := (vb dM).toList) hkN; rw [upd_upd] at z; exact z) (.inl rfl)) hpS.1 ⟨hm1, hm2, hm3, hm4, hm5, hm6, hm7, hm8, rfl⟩
  · unfold Stop
    with_reducible rename Fr _ _ _ _ => F2
    with_reducible rename News _ _ _ _ => N2
    refine wpAny_Assign_Name ?_
    refine' dict_sub (pz := fun _ => true) F2 N2 ?hh ?big ?clos ?cell ?kind ?names ?x ?m ?d ?lo ?z ?dk ?dc ?cm ?cd ?bx ?bd ?tests ?it ?_
    k_extra "z dsub"
    case tests => exact fun C k t s3 m3 E3 _ _ _ _ => wpAny_tests_nil ⟨rfl, s3.heap, s3.toks, rfl, fun _ _ e => e⟩
    intro aH h' oH tk' F' N' l1 hDh loH
    simp only [filter_all] at hDh
    have hALh := allLt_of l1
    k_lt l1
    clear F2 N2
    k_steps
    with_reducible rename Fr _ _ _ _ => F9
    with_reducible rename News _ _ _ _ => N9
    simp only [List.push_toArray] at N9
    have offL : ∀ p ∈ tl, p.1 ≠ aH := fun p hp => Nat.ne_of_lt (AllLt.all hALh p (by repeat (first | exact hp | refine' List.Mem.tail _ ?_)))
    have hqe : @Ne Nat q eo := by k_ne
    exact hEnd _ _ _ rootS n6S odS oS aH oH _ (ws ++ [Value.ref q]) _ _ _ TS DS _ (upd f kN dflt.toList) ((q, tup3 root _ keyK _ bG _ _) :: (eo, oe) :: tl) .none F9 (newsSub (l := (I, oI) :: (Dl, oDl) :: (x, _) :: (dx, _) :: (da, odS) :: (aH, oH) :: (pa, _) :: (va, _) :: (bl, _) :: (fa, ofa) :: (ca, oca) :: (c5, ocl) :: (ta, oS) :: (L + 1 + 1 + 1 + 1, _) :: (L + 1 + 1 + 1, _) :: (L + 1 + 1, _) :: (L + 1, o1) :: (186, tabObj ps) :: (q, tup3 root _ keyK _ bG _ _) :: (eo, oe) :: tl) N9 (by k_extra "z sub")) (by k_extra "z apl") (Off.pcons (by k_extra "z apx") (Off.pcons (by k_extra "z apx") (Off.mono (Off.cons offL hOff) (by k_extra "z msub")))) (stok_step hst0 hi hs2 hpS hkS hkV hkN hbG (.head _) (.tail _ (.head _)) hqe (fun a ha => .tail _ (.tail _ ha)) loe hDe (by with_reducible assumption) (by with_reducible assumption) (by with_reducible assumption) loH hDh (by omega) hrep.without (.inl rfl)) hpS.1 ⟨hm1, hm2, hm3, hm4, hm5, hm6, hm7, hm8, rfl⟩
end
end -- S34
section -- S35
theorem lines_s35_1 : True := by
  w_top off
  k_with_none
  (k_with "execs cons" => (((with_reducible show wpAny _ _ (execs (Stmt.Assign _ _ _ :: _) _) _ _ _); refine execsGen fun P8 hP8 => ?_)))
  (k_with "execs cons" => (((with_reducible show wpAny _ _ (execs (Stmt.Expr _ _ :: _) _) _ _ _); refine execsGen fun P8 hP8 => ?_)))
  (k_with "execs cons" => (((with_reducible show wpAny _ _ (execs (Stmt.AugAssign _ _ _ _ :: _) _) _ _ _); refine execsGen fun P8 hP8 => ?_)))
  (k_with "FinQ" => ((refine finOut (by with_reducible assumption) ?_; (try dsimp only))))
  (k_with "exec Try" => (((with_reducible show wpAny _ _ (exec (Stmt.Try _ (_ :: _) _ [] _) _) _ _ _); refine wpAny_Try_except ?_)))
  (k_with "eval Name" => ((k_here; k_dflt (refine' nameX_L ?q10F ?q10v ?_ ?q10a ?q10b; (case q10a => rfl); (case q10b => rfl); (case q10F => k_asm); (case q10v => assumption); k_whole))))
  (k_with "k_ne" => (first | (refine PySem.W.neN ?_; (try dsimp only); first | exact Apx.l (by with_reducible assumption) (by k_mem) | exact Apx.r (by with_reducible assumption) (by k_mem) | exact AllNe.at1 (by with_reducible assumption) (by k_mem) | exact AllNe.at2 (by with_reducible assumption) (by k_mem) | omega)))
  (k_with "nm_c0" => ((intro hC F' N'; (try dsimp only at N'); (try k_sweep))))
  (k_with "noteFrame ref" => ((k_here; (first
  | (k_dflt (refine' catch0 (mean := _) ?q44A ?q44R ?q44F ?q44U ?q44X ?q44T ?q44c ?q44e ?_ ?q44hE ?q44hk ?q44hx ?q44hd; (case q44R => assumption); (case q44A => exact rfl); (case q44F => assumption); (case q44U => assumption); (case q44X => assumption); (case q44T => assumption)))
  | (k_dflt (refine' catch0 (mean := _) ?q44A ?q44R ?q44F ?q44U ?q44X ?q44T ?q44c ?q44e ?_ ?q44hE ?q44hk ?q44hx ?q44hd; (case q44R => exact RaisedS.toSN (by assumption)); (case q44A => exact rfl); (case q44F => assumption); (case q44U => assumption); (case q44X => assumption); (case q44T => assumption)))); (case q44c => kts_nm); (case q44e => kts_exm); (case q44hk => exact rfl); (case q44hx => exact rfl); (case q44hd => decide); (case q44hE => with_unfolding_all passes_own); k_extra "nm_c0")))
  (k_with "InitBack" => ((dsimp only [InitBack])))
  (k_with "loadName" => ((k_here; k_dflt (refine' loadX ?q45F ?q45v ?_ ?q45a ?q45b; (case q45a => rfl); (case q45b => rfl); (case q45F => k_asm); (case q45v => first | assumption | exact rfl); k_whole))))
  (k_with "z apx" => (first | exact Apx.nil _ | (refine' Apx.cons ?q50za ?q50zb; (case q50za => k_ne); (case q50zb => k_extra "z apx"))))
  (k_with "z apl" => (first | exact True.intro | (refine' And.intro ?q51za ?q51zb; (case q51za => k_extra "z apx"); (case q51zb => k_extra "z apl"))))
  (k_with "z notin" => (first | exact notin_nil | (refine' notin_cons ?q52za ?q52zb; (case q52za => k_ne); (case q52zb => k_extra "z notin"))))
  (k_with "z sub" => (first | exact Sub.nil _ | (refine' Sub.cons ?q53za ?q53zb; (case q53za => k_mem); (case q53zb => k_extra "z sub"))))
  (k_with "z hash" => ((refine' LawH.at ?q54zh ?q54zn ?q54z1 ?q54z2 ?q54z3 ?q54z4 ?q54z5 ?q54z6; (case q54zh => assumption); (case q54zn => k_asm); (case q54z1 => k_mem); (case q54z2 => k_mem); (case q54z3 => k_mem); (case q54z4 => k_extra "z notin"); (case q54z5 => k_extra "z notin"); (case q54z6 => k_extra "z notin"))))
  (k_with "z hashnew" => ((intro h1 x dx F1 N1 nx nd; refine' hashNew ?q55zh ?q55z1 ?q55z2 ?q55z3 ?q55z4 ?q55z5 ?q55z6 N1 nx nd; (case q55zh => assumption); (case q55z1 => k_mem); (case q55z2 => k_mem); (case q55z3 => k_mem); (case q55z4 => k_ne); (case q55z5 => k_ne); (case q55z6 => k_ne))))
  (k_with "z binds" => ((intro x9 s9 fd9 o9 X9 ho9 hd9; (refine' lookup_inj ho9 ?q20h29 ?_; (case q20h29 => k_is); intro h39); subst h39; cases hd9; first | exact BindsTo.of_eq rfl | exact binds_K X9 rfl (by k_is) rfl rfl rfl)))
  (k_with "z nm new" => ((intro xN dN aN rootN t1N t2N t3N t4N t5N t6N u2N u6N oN odN TN DN h' tk' F' N' nxN ndN naN neN exN htN hdN okN lenN inN; (try dsimp only at N' nxN ndN naN); (have hlN := Ext.len exN))))
  (k_with "call ref" => ((k_here; (with_reducible show wpAny _ _ (call (Value.ref 140) _ _) _ _ _); k_dflt (refine' call_new (size := 32) ?q56B ?q56F ?q56X ?q56T ?q56N ?q56c1 ?q56c2 ?q56c3 ?q56c4 ?q56hb ?q56H ?q56ot ?q56U ?q56z ?q56r ?q56lo ?q56s1 ?q56s2 ?_; (case q56F => k_asm); (case q56N => k_asm); (case q56B => k_asm); (case q56X => k_asm); (case q56T => k_asm); (case q56c1 => exact rfl); (case q56c2 => exact rfl); (case q56c3 => exact rfl); (case q56c4 => exact rfl); (case q56hb => k_extra "z binds"); (case q56H => k_extra "z hashnew"); (case q56ot => assumption); (case q56U => k_updF); (case q56z => omega); (case q56r => k_room); (case q56lo => assumption); (case q56s1 => omega); (case q56s2 => omega)); k_extra "z nm new"; (try k_sweep))))
  (k_with "z nm blanks" => ((intro lK vsK nK h' tk' oK TK F' N' nlK exK htK blK; (try dsimp only at N' nlK); (have hlK := Ext.len exK))))
  (k_with "call ref" => ((k_here; (with_reducible show wpAny _ _ (call (Value.ref 165) _ _) _ _ _); k_dflt (refine' call_blanks (d := 256) ?q57B ?q57F ?q57X ?q57T ?q57N ?q57c1 ?q57c2 ?q57c3 ?q57c4 ?q57H ?q57ot ?q57U ?q57z ?q57r ?q57dd ?q57lo ?_; (case q57F => k_asm); (case q57N => k_asm); (case q57B => k_asm); (case q57X => k_asm); (case q57T => k_asm); (case q57c1 => exact rfl); (case q57c2 => exact rfl); (case q57c3 => exact rfl); (case q57c4 => exact rfl); (case q57H => k_extra "z hash"); (case q57ot => assumption); (case q57U => k_updF); (case q57z => omega); (case q57r => k_room); (case q57dd => omega); (case q57lo => assumption)); k_extra "z nm blanks"; (try k_sweep))))
  (k_with "z nm blk" => (intro bK uK hbK))
  (k_with "subscriptTail" => ((k_here; (with_reducible show wpAny _ _ (subscriptTail _ _ (Value.ref _) (Value.int _ _)) _ _ _); k_dflt (refine' item_blk (d := 256) ?q58N ?q58m ?q58b ?q58d ?q58n ?_; (case q58N => k_asm); (case q58m => k_mem); (case q58b => assumption); (case q58d => omega); (case q58n => omega)); k_extra "z nm blk")))
  (k_with "compareOp NotEq bytes bytes" => ((k_here; refine stop ?_)))
  (k_with "z nm sc" => (intro hsc9 tkSc))
  (k_with "truthy ref" => ((k_here; k_dflt (refine' script_true ?q59F ?q59l ?q59i ?q59n ?_ ?_; (case q59F => k_asm); (case q59l => assumption); (case q59i => assumption); (case q59n => assumption)); (all_goals k_extra "z nm sc"))))
  (k_with "z nm it" => (intro nIt uIt))
  (k_with "subscriptTail" => ((k_here; (with_reducible show wpAny _ _ (subscriptTail _ _ (Value.ref _) (Value.int 0 _)) _ _ _); k_dflt (refine' script_item ?q60F ?q60l ?q60i ?q60n ?_; (case q60F => k_asm); (case q60l => assumption); (case q60i => assumption); (case q60n => assumption)); k_extra "z nm it")))
  (k_with "z upd3" => (first | exact Upd3.nil | (refine' Upd3.one ?q61a; (case q61a => k_extra "z upd3")) | (refine' Upd3.two ?q61a; (case q61a => k_extra "z upd3")) | (refine' Upd3.three ?q61a; (case q61a => k_extra "z upd3")) | (refine' Upd3.skip ?q61n ?q61a; (case q61n => (refine ⟨?_, ?_, ?_⟩ <;> k_ne)); (case q61a => k_extra "z upd3"))))
  (k_with "z upd2" => (first | exact Upd2.nil | (refine' Upd2.one ?q62a; (case q62a => k_extra "z upd2")) | (refine' Upd2.two ?q62a; (case q62a => k_extra "z upd2")) | (refine' Upd2.skip ?q62n ?q62a; (case q62n => (refine ⟨?_, ?_⟩ <;> k_ne)); (case q62a => k_extra "z upd2")) | (refine' Upd2.rest ?q62a; (case q62a => assumption))))
  (k_with "k_mem" => (((repeat (first | exact List.Mem.head _ | exact memOf (by with_reducible assumption) | refine' List.Mem.tail _ ?_)); done)))
  (k_with "k_ne" => (first | (refine PySem.W.neN ?_; (try dsimp only); first | exact Apx.l (by with_reducible assumption) (by k_mem) | exact Apx.r (by with_reducible assumption) (by k_mem) | exact AllNe.at1 (by with_reducible assumption) (by k_mem) | exact AllNe.at2 (by with_reducible assumption) (by k_mem) | exact Off.at1 (by with_reducible assumption) (by with_reducible assumption) (by k_mem) | exact Off.at2 (by with_reducible assumption) (by with_reducible assumption) (by k_mem) | with_reducible assumption | omega)))
  (k_with "k_all" => (first | exact List.forall_mem_nil _ | exact Off.all (by with_reducible assumption) (by k_mem) | (refine' List.forall_mem_cons.mpr ⟨?q65a, ?q65b⟩; (case q65a => k_ne); (case q65b => k_all))))
  (k_with "z sub" => (first | exact Sub.nil _ | (refine' Sub.cons ?q66za ?q66zb; (case q66za => k_mem); (case q66zb => k_extra "z sub")) | (repeat (first | exact Sub.refl _ | refine' Sub.skip ?_))))
  (k_with "exec For Tuple Name cons nil" => (refine stop ?_))
  (k_with "pyIter ref" => (refine stop ?_))
  (k_with "call ref" => ((k_here; (with_reducible show wpAny _ _ (call (Value.ref 184) _ _) _ _ _); refine stop ?_)))
  (k_with "execs cons" => (((with_reducible show wpAny _ _ (execs (Stmt.If _ _ _ ⟨211, _, _, _⟩ :: _) _) _ _ _); refine stop ?_)))
  (k_with "assign Tuple" => ((k_here; (with_reducible show wpAny _ _ (assign (Expr.Tuple _ _ _) _ (Value.ref _)) _ _ _); k_dflt (refine' unpackN_ ?q67F ?q67N ?q67T ?q67k1 ?q67k2 ?q67k3 ?_; (case q67F => with_reducible assumption); (case q67N => with_reducible assumption); (case q67T => exact News.isTup (by with_reducible assumption) (by k_mem)); (case q67k1 => exact rfl); (case q67k2 => exact rfl); (case q67k3 => exact rfl)); intro h' F' N'; (try k_sweep))))
  (k_with "z msub" => (first | exact mnil | (refine' mcons ?q68za ?q68zb; (case q68za => k_mem); (case q68zb => k_extra "z msub"))))
  (k_with "exec For Name Subscript cons nil" => (refine stop ?_))
  (k_with "exec For Name Subscript" => (refine stop ?_))
  (k_with "pyIter ref" => (refine stop ?_))
  (k_with "execs cons" => (((with_reducible show wpAny _ _ (execs (Stmt.Assign _ _ ⟨190, _, _, _⟩ :: _) _) _ _ _); refine stop ?_)))
  (k_with "z allne" => (first | exact allNe_of (Off.all (by with_reducible assumption) (by k_mem)) | (refine' And.intro ?q91za ?q91zb; (case q91za => k_ne); (case q91zb => k_extra "z allne"))))
  trivial
section
variable {prog : Program} {w : World} {g : Heap} {L fn : Addr} {s : Shared} {h : Heap} {tk : Nat} {m : Str → Option Value} {Q : Flow → Shared → Prop} {E1 : Value → Shared → Prop} {fa x dx da ta ca c5 sc pa bl ho va : Addr} {ofa oca ocl ot odb o1 o2 o3 o4 oh : Obj} {ps : Array Value}
  {p : Program} {loose : List Str} {mean : ExcName → Option Value} {mg mb : Str → Option Value} {t1 t2 t3 t4 t5 t6 u1 u2 u3 u6 us ud ut : Tok} {size np nv nva : Nat} {dflt root : Array UInt8} {T : List Oct} {D : List (Oct × Oct)} {Dh : List (Int × Oct)} {items ws vs vals : List Value} {ns : List Int} {tl : List (Addr × Obj)} {f : Nat → Oct} {told : Value} {vb : Nat → Array UInt8} {vu : Nat → Tok}
set_option maxHeartbeats 4000000 in
theorem seg_loop (B : Below callerA g [] g) (X : (hd0.heap_1 w.params).In g) (TT : Top p loose mean mg mb g) (F : Fr g L h m) (hsc : g.IsList sc items.toArray) (hints : IntsAre items ns) (hns : ns.length ≤ 63)
    (N : News g L h ((x, instObj 140 dx) :: (dx, dictOf (treeEs w t1 t2 t3 t4 t5 t6 (.int size u1) (.int (8 * size : Int) u2) (.bytes dflt u3) (.ref fa) (.ref da) (.bytes root u6)) 6) :: (da, odb) :: (ho, oh) :: (pa, listOf (List.toArray ws) np) :: (va, listOf vals.toArray nva) :: (bl, listOf vs.toArray nv) :: (fa, ofa) :: (ca, oca) :: (c5, ocl) :: (ta, ot) :: (L + 1 + 1 + 1 + 1, o4) :: (L + 1 + 1 + 1, o3) :: (L + 1 + 1, o2) :: (L + 1, o1) :: (186, tabObj ps) :: tl))
    (hA : ApL [x, dx, da, ho, pa, va, bl, fa, ca, c5, ta, L + 1 + 1 + 1 + 1, L + 1 + 1 + 1, L + 1 + 1, L + 1, 186]) (hOff : Off tl [x, dx, da, ho, pa, va, bl, fa, ca, c5, ta, L + 1 + 1 + 1 + 1, L + 1 + 1 + 1, L + 1 + 1, L + 1, 186]) (H : LawH ofa oca ocl ca c5 ta) (lo : (ta == sysModules) = false)
    (hst : StOk prog w size 0 dflt root ot odb oh o2 o3 o4 ho T D Dh f ws tl told) (hblk : ∃ T0 k, Ext k T0 T ∧ Blk T0 dflt.toList (8 * size + 1) vs) (hvals : ∀ j : Nat, j < 5 → vals[j]? = some (.bytes (vb j) (vu j))) (hd1 : o1.data = .cell (some (.int ((8 * size : Nat) : Int) ut)))
    (hs1 : 1 ≤ size) (hs2 : size ≤ 2) (hm1 : m "_law_hash" = some (.ref fa)) (hm2 : m "tree" = some (.ref x)) (hm3 : m "script" = some (.ref sc)) (hm4 : m "past" = some (.ref pa)) (hm5 : m "size" = some (.int (size : Int) us)) (hm6 : m "default" = some (.bytes dflt ud)) (hm7 : m "blanks" = some (.ref bl)) (hm8 : m "values" = some (.ref va)) (hm9 : m "told" = some told)
    (hQ : ∀ h' tk', (∀ b o, g.get? b = some o → h'.get? b = some o) → GrownAt 186 h' → Q (.ret (.bool true)) { s with heap := h', toks := tk' }) :
    wpAny (model prog w) (callerA.deeper (lawEnv L fn)) (execs (lawBody.drop 12) (lawEnv L fn)) Q (fun e s' => wpAny (model prog w) (callerA.deeper (lawEnv L fn)) (leaving (lawEnv L fn) e) (fun _ s'' => E1 e s'') (fun e' s'' => E1 e' s'') s') { s with heap := h, toks := tk } := by
  conv in (execs (List.drop 12 lawBody) _) => arg 1; whnf
  have hA0 := hA
  obtain ⟨a1, a2, a3, a4, a5, a6, a7, a8, a9, a10, a11, a12, a13, a14, a15, _⟩ := hA
  k_steps
  unfold Stop
  refine For_invV g (by rfl) (by rfl) ?_
  k_steps
  unfold Stop
  with_reducible rename Fr _ _ _ _ => F1
  with_reducible rename News _ _ _ _ => N1
  with_reducible rename IntsAre _ (List.take _ _) => hIk
  with_reducible rename AllLt _ _ => hAL
  refine pickO N1 fun Dl oDl e1 e2 => ?_
  subst e1
  have hoffD : ∀ p ∈ tl, p.1 ≠ Dl := fun p hp => Nat.ne_of_lt (AllLt.all hAL p (by repeat (first | exact hp | refine' List.Mem.tail _ ?_)))
  have hAD : ApL [Dl, x, dx, da, ho, pa, va, bl, fa, ca, c5, ta, L + 1 + 1 + 1 + 1, L + 1 + 1 + 1, L + 1 + 1, L + 1, 186] := by k_extra "z apl"
  have hOffD : Off tl [Dl, x, dx, da, ho, pa, va, bl, fa, ca, c5, ta, L + 1 + 1 + 1 + 1, L + 1 + 1 + 1, L + 1 + 1, L + 1, 186] := Off.cons hoffD hOff
  have hlen6 := hIk.length
  simp only [List.length_take, List.length_drop] at hlen6
  subst e2
  refine iter_lst (fun i m1 nx => ∃ root' u6' odb' ot' ho' oh' np' ws' o4' o3' o2' T' D' Dh' f' tl' told' k, nx = (Dl, listOf (List.toArray _) 0) :: (x, instObj 140 dx) :: (dx, dictOf (treeEs w t1 t2 t3 t4 t5 t6 (.int size u1) (.int (8 * size : Int) u2) (.bytes dflt u3) (.ref fa) (.ref da) (.bytes root' u6')) 6) :: (da, odb') :: (ho', oh') :: (pa, listOf (List.toArray ws') np') :: (va, listOf vals.toArray nva) :: (bl, listOf vs.toArray nv) :: (fa, ofa) :: (ca, oca) :: (c5, ocl) :: (ta, ot') :: (L + 1 + 1 + 1 + 1, o4') :: (L + 1 + 1 + 1, o3') :: (L + 1 + 1, o2') :: (L + 1, o1) :: (186, tabObj ps) :: tl' ∧ ApL [Dl, x, dx, da, ho', pa, va, bl, fa, ca, c5, ta, L + 1 + 1 + 1 + 1, L + 1 + 1 + 1, L + 1 + 1, L + 1, 186] ∧ Off tl' [Dl, x, dx, da, ho', pa, va, bl, fa, ca, c5, ta, L + 1 + 1 + 1 + 1, L + 1 + 1 + 1, L + 1 + 1, L + 1, 186] ∧ StOk prog w size i dflt root' ot' odb' oh' o2' o3' o4' ho' T' D' Dh' f' ws' tl' told' ∧ Ext k T T' ∧ m1 "_law_hash" = some (.ref fa) ∧ m1 "tree" = some (.ref x) ∧ m1 "script" = some (.ref sc) ∧ m1 "past" = some (.ref pa) ∧ m1 "size" = some (.int (size : Int) us) ∧ m1 "default" = some (.bytes dflt ud) ∧ m1 "blanks" = some (.ref bl) ∧ m1 "values" = some (.ref va) ∧ m1 "told" = some told') rfl F1 N1 (.head _) ⟨_, _, _, _, _, _, _, _, _, _, _, _, _, _, _, _, _, 0, rfl, hAD, hOffD, hst, Ext.refl T, hm1, hm2, hm3, hm4, hm5, hm6, hm7, hm8, hm9⟩ ?_ ?_ ?_
  · rintro i m1 nx ⟨root', u6', odb', ot', ho', oh', np', ws', o4', o3', o2', T', D', Dh', f', tl', told', k, rfl, _⟩
    exact .head _
  · intro i v m₁ news₁ h5 tk5 I oI hi hv hJ hne9 F6 N6
    refine wpGenQ fun P9 hP9 => ?_
    obtain ⟨root', u6', odb', ot', ho', oh', np', ws', o4', o3', o2', T', D', Dh', f', tl', told', k, rfl, hA6, hO6, hst6, hex6, hn1, hn2, hn3, hn4, hn5, hn6, hn7, hn8, hn9⟩ := hJ
    obtain ⟨n, tn, rfl, _⟩ := IntsAre.at hIk i v hv
    have hI6 : ∀ p ∈ tl', p.1 ≠ I := fun p hp => hne9.all p (by repeat (first | exact hp | refine' List.Mem.tail _ ?_))
    have hAI : Apx I [Dl, x, dx, da, ho', pa, va, bl, fa, ca, c5, ta, L + 1 + 1 + 1 + 1, L + 1 + 1 + 1, L + 1 + 1, L + 1, 186] := by k_extra "z apx"
    refine loop_turn (P := P9) B X TT F6 N6 ⟨hAI, hA6⟩ (Off.cons hI6 hO6) H lo hst6 (by omega) hvals hd1 hs1 hs2 hn1 hn2 hn3 hn4 hn5 hn6 hn7 hn8 rfl ?_
    intro h7 tk7 m7 root7 n7 odb7 ot7 ho7 oh7 np7 ws7 o47 o37 o27 T7 D7 Dh7 f7 tl7 told7 F7 N7 hA7 hO7 hst7 hex7 hm7'
    obtain ⟨r1, r2, r3, r4, r5, r6, r7, r8, r9⟩ := hm7'
    have hO7' := hO7
    obtain ⟨aI7, hA7'⟩ := hA7
    exact hP9 _ _ (show TurnNext _ _ _ _ _ _ _ from ⟨_, _, _, _, rfl, F7, N7, by k_extra "z allne", _, _, _, _, _, _, _, _, _, _, _, _, _, _, _, _, _, _, rfl, hA7', hO7.mono (fun a ha => .tail _ ha), hst7, hex6.trans hex7, r1, r2, r3, r4, r5, r6, r7, r8, r9⟩)
  · intro m₁ news₁ h5 tk5 hJ F6 N6
    obtain ⟨root', u6', odb', ot', ho', oh', np', ws', o4', o3', o2', T', D', Dh', f', tl', told', k, rfl, hA6, hO6, hst6, hex6, hn1, hn2, hn3, hn4, hn5, hn6, hn7, hn8, hn9⟩ := hJ
    clear F1 N1
    k_steps
    unfold Stop
    with_reducible rename Fr _ _ _ _ => F9
    with_reducible rename News _ _ _ _ => N9
    obtain ⟨T0, k0, hx0, hb0⟩ := hblk
    obtain ⟨a1, a2, a3, a4, a5, a6, a7, a8, a9, a10, a11, a12, a13, a14, a15, a16, _⟩ := hA6
    obtain ⟨htbl, htl, hdb, hdl, hok, hin, hhk, hhl, hrep0, hwl, hpast, hlast, htold, _, _, h2, loh⟩ := hst6
    exact seg_found B X TT F9 hsc hints hns (newsSub (l := (x, _) :: (dx, _) :: (da, odb') :: (ho', oh') :: (pa, _) :: (bl, _) :: (fa, ofa) :: (ca, oca) :: (c5, ocl) :: (ta, ot') :: (L + 1 + 1 + 1 + 1, o4') :: (L + 1 + 1 + 1, o3') :: (L + 1 + 1, o2') :: (L + 1, o1) :: (186, tabObj ps) :: tl') N9 (by k_extra "z sub")) (by k_extra "z apl") (hO6.mono (by k_extra "z msub")) H htbl (by omega) lo loh hdb (by omega) hok hin hhk hrep0 hpast hlast ((hb0.ext hx0).ext hex6) hd1 h2 (by omega) (by omega) (htold.elim (fun e => .inl (by rw [hn9, e])) fun ⟨tq, pvs, n, bs, kl, t9, e, r⟩ => .inr ⟨tq, pvs, n, bs, kl, t9, by rw [hn9, e], r⟩) hs1 hs2 hn1 hn2 hn3 hn4 hn5 hn6 hn7 hQ
end
end -- S35
section -- S36a
def vbf (b0 b1 b2 b3 b4 : Array UInt8) (j : Nat) : Array UInt8 := match j with | 0 => b0 | 1 => b1 | 2 => b2 | 3 => b3 | _ => b4
def vuf (b0 b1 b2 b3 b4 : Tok) (j : Nat) : Tok := match j with | 0 => b0 | 1 => b1 | 2 => b2 | 3 => b3 | _ => b4
theorem vals_f (b0 b1 b2 b3 b4 : Array UInt8) (u0 u1 u2 u3 u4 : Tok) : ∀ j : Nat, j < 5 → ([Value.bytes b0 u0, .bytes b1 u1, .bytes b2 u2, .bytes b3 u3, .bytes b4 u4] : List Value)[j]? = some (.bytes (vbf b0 b1 b2 b3 b4 j) (vuf u0 u1 u2 u3 u4 j)) := by
  intro j hj
  match j, hj with
  | 0, _ => rfl
  | 1, _ => rfl
  | 2, _ => rfl
  | 3, _ => rfl
  | 4, _ => rfl
theorem rep_nil (dflt : Oct) (d : Nat) : Rep [] (cst dflt) dflt 0 d := ⟨fun i _ _ => rfl, fun k hk => by cases hk⟩
theorem off_nil (l : List Nat) : Off [] l := fun p hp => by cases hp
end -- S36a
section -- S36
theorem lines_s36_1 : True := by
  w_top off
  k_with_none
  (k_with "exec Try" => (((with_reducible show wpAny _ _ (exec (Stmt.Try _ (_ :: _) _ [] _) _) _ _ _); refine wpAny_Try_except ?_)))
  (k_with "eval Name" => ((k_here; k_dflt (refine' nameX_L ?q10F ?q10v ?_ ?q10a ?q10b; (case q10a => rfl); (case q10b => rfl); (case q10F => k_asm); (case q10v => assumption); k_whole))))
  (k_with "k_ne" => (first | (refine PySem.W.neN ?_; (try dsimp only); first | exact Apx.l (by with_reducible assumption) (by k_mem) | exact Apx.r (by with_reducible assumption) (by k_mem) | exact AllNe.at1 (by with_reducible assumption) (by k_mem) | exact AllNe.at2 (by with_reducible assumption) (by k_mem) | omega)))
  (k_with "nm_c0" => ((intro hC F' N'; (try dsimp only at N'); (try k_sweep))))
  (k_with "noteFrame ref" => ((k_here; (first
  | (k_dflt (refine' catch0 (mean := _) ?q44A ?q44R ?q44F ?q44U ?q44X ?q44T ?q44c ?q44e ?_ ?q44hE ?q44hk ?q44hx ?q44hd; (case q44R => assumption); (case q44A => exact rfl); (case q44F => assumption); (case q44U => assumption); (case q44X => assumption); (case q44T => assumption)))
  | (k_dflt (refine' catch0 (mean := _) ?q44A ?q44R ?q44F ?q44U ?q44X ?q44T ?q44c ?q44e ?_ ?q44hE ?q44hk ?q44hx ?q44hd; (case q44R => exact RaisedS.toSN (by assumption)); (case q44A => exact rfl); (case q44F => assumption); (case q44U => assumption); (case q44X => assumption); (case q44T => assumption)))); (case q44c => kts_nm); (case q44e => kts_exm); (case q44hk => exact rfl); (case q44hx => exact rfl); (case q44hd => decide); (case q44hE => with_unfolding_all passes_own); k_extra "nm_c0")))
  (k_with "InitBack" => ((dsimp only [InitBack])))
  (k_with "loadName" => ((k_here; k_dflt (refine' loadX ?q45F ?q45v ?_ ?q45a ?q45b; (case q45a => rfl); (case q45b => rfl); (case q45F => k_asm); (case q45v => first | assumption | exact rfl); k_whole))))
  (k_with "z apx" => (first | exact Apx.nil _ | (refine' Apx.cons ?q50za ?q50zb; (case q50za => k_ne); (case q50zb => k_extra "z apx"))))
  (k_with "z apl" => (first | exact True.intro | (refine' And.intro ?q51za ?q51zb; (case q51za => k_extra "z apx"); (case q51zb => k_extra "z apl"))))
  (k_with "z notin" => (first | exact notin_nil | (refine' notin_cons ?q52za ?q52zb; (case q52za => k_ne); (case q52zb => k_extra "z notin"))))
  (k_with "z sub" => (first | exact Sub.nil _ | (refine' Sub.cons ?q53za ?q53zb; (case q53za => k_mem); (case q53zb => k_extra "z sub"))))
  (k_with "z hash" => ((refine' LawH.at ?q54zh ?q54zn ?q54z1 ?q54z2 ?q54z3 ?q54z4 ?q54z5 ?q54z6; (case q54zh => assumption); (case q54zn => k_asm); (case q54z1 => k_mem); (case q54z2 => k_mem); (case q54z3 => k_mem); (case q54z4 => k_extra "z notin"); (case q54z5 => k_extra "z notin"); (case q54z6 => k_extra "z notin"))))
  (k_with "z hashnew" => ((intro h1 x dx F1 N1 nx nd; refine' hashNew ?q55zh ?q55z1 ?q55z2 ?q55z3 ?q55z4 ?q55z5 ?q55z6 N1 nx nd; (case q55zh => assumption); (case q55z1 => k_mem); (case q55z2 => k_mem); (case q55z3 => k_mem); (case q55z4 => k_ne); (case q55z5 => k_ne); (case q55z6 => k_ne))))
  (k_with "z binds" => ((intro x9 s9 fd9 o9 X9 ho9 hd9; (refine' lookup_inj ho9 ?q20h29 ?_; (case q20h29 => k_is); intro h39); subst h39; cases hd9; first | exact BindsTo.of_eq rfl | exact binds_K X9 rfl (by k_is) rfl rfl rfl)))
  (k_with "z nm new" => ((intro xN dN aN rootN t1N t2N t3N t4N t5N t6N u2N u6N oN odN TN DN h' tk' F' N' nxN ndN naN neN exN htN hdN okN lenN inN; (try dsimp only at N' nxN ndN naN); (have hlN := Ext.len exN))))
  (k_with "call ref" => ((k_here; (with_reducible show wpAny _ _ (call (Value.ref 140) _ _) _ _ _); k_dflt (refine' call_new (size := 32) ?q56B ?q56F ?q56X ?q56T ?q56N ?q56c1 ?q56c2 ?q56c3 ?q56c4 ?q56hb ?q56H ?q56ot ?q56U ?q56z ?q56r ?q56lo ?q56s1 ?q56s2 ?_; (case q56F => k_asm); (case q56N => k_asm); (case q56B => k_asm); (case q56X => k_asm); (case q56T => k_asm); (case q56c1 => exact rfl); (case q56c2 => exact rfl); (case q56c3 => exact rfl); (case q56c4 => exact rfl); (case q56hb => k_extra "z binds"); (case q56H => k_extra "z hashnew"); (case q56ot => assumption); (case q56U => k_updF); (case q56z => omega); (case q56r => k_room); (case q56lo => assumption); (case q56s1 => omega); (case q56s2 => omega)); k_extra "z nm new"; (try k_sweep))))
  (k_with "z nm blanks" => ((intro lK vsK nK h' tk' oK TK F' N' nlK exK htK blK; (try dsimp only at N' nlK); (have hlK := Ext.len exK))))
  (k_with "call ref" => ((k_here; (with_reducible show wpAny _ _ (call (Value.ref 165) _ _) _ _ _); k_dflt (refine' call_blanks (d := 256) ?q57B ?q57F ?q57X ?q57T ?q57N ?q57c1 ?q57c2 ?q57c3 ?q57c4 ?q57H ?q57ot ?q57U ?q57z ?q57r ?q57dd ?q57lo ?_; (case q57F => k_asm); (case q57N => k_asm); (case q57B => k_asm); (case q57X => k_asm); (case q57T => k_asm); (case q57c1 => exact rfl); (case q57c2 => exact rfl); (case q57c3 => exact rfl); (case q57c4 => exact rfl); (case q57H => k_extra "z hash"); (case q57ot => assumption); (case q57U => k_updF); (case q57z => omega); (case q57r => k_room); (case q57dd => omega); (case q57lo => assumption)); k_extra "z nm blanks"; (try k_sweep))))
  (k_with "z nm blk" => (intro bK uK hbK))
  (k_with "subscriptTail" => ((k_here; (with_reducible show wpAny _ _ (subscriptTail _ _ (Value.ref _) (Value.int _ _)) _ _ _); k_dflt (refine' item_blk (d := 256) ?q58N ?q58m ?q58b ?q58d ?q58n ?_; (case q58N => k_asm); (case q58m => k_mem); (case q58b => assumption); (case q58d => omega); (case q58n => omega)); k_extra "z nm blk")))
  (k_with "compareOp NotEq bytes bytes" => ((k_here; refine stop ?_)))
  (k_with "z nm sc" => (intro hsc9 tkSc))
  (k_with "truthy ref" => ((k_here; k_dflt (refine' script_true ?q59F ?q59l ?q59i ?q59n ?_ ?_; (case q59F => k_asm); (case q59l => assumption); (case q59i => assumption); (case q59n => assumption)); (all_goals k_extra "z nm sc"))))
  (k_with "z nm it" => (intro nIt uIt))
  (k_with "subscriptTail" => ((k_here; (with_reducible show wpAny _ _ (subscriptTail _ _ (Value.ref _) (Value.int 0 _)) _ _ _); k_dflt (refine' script_item ?q60F ?q60l ?q60i ?q60n ?_; (case q60F => k_asm); (case q60l => assumption); (case q60i => assumption); (case q60n => assumption)); k_extra "z nm it")))
  (k_with "z upd3" => (first | exact Upd3.nil | (refine' Upd3.one ?q61a; (case q61a => k_extra "z upd3")) | (refine' Upd3.two ?q61a; (case q61a => k_extra "z upd3")) | (refine' Upd3.three ?q61a; (case q61a => k_extra "z upd3")) | (refine' Upd3.skip ?q61n ?q61a; (case q61n => (refine ⟨?_, ?_, ?_⟩ <;> k_ne)); (case q61a => k_extra "z upd3"))))
  (k_with "z upd2" => (first | exact Upd2.nil | (refine' Upd2.one ?q62a; (case q62a => k_extra "z upd2")) | (refine' Upd2.two ?q62a; (case q62a => k_extra "z upd2")) | (refine' Upd2.skip ?q62n ?q62a; (case q62n => (refine ⟨?_, ?_⟩ <;> k_ne)); (case q62a => k_extra "z upd2")) | (refine' Upd2.rest ?q62a; (case q62a => assumption))))
  (k_with "k_mem" => (((repeat (first | exact List.Mem.head _ | exact memOf (by with_reducible assumption) | refine' List.Mem.tail _ ?_)); done)))
  (k_with "k_ne" => (first | (refine PySem.W.neN ?_; (try dsimp only); first | exact Apx.l (by with_reducible assumption) (by k_mem) | exact Apx.r (by with_reducible assumption) (by k_mem) | exact AllNe.at1 (by with_reducible assumption) (by k_mem) | exact AllNe.at2 (by with_reducible assumption) (by k_mem) | exact Off.at1 (by with_reducible assumption) (by with_reducible assumption) (by k_mem) | exact Off.at2 (by with_reducible assumption) (by with_reducible assumption) (by k_mem) | with_reducible assumption | omega)))
  (k_with "k_all" => (first | exact List.forall_mem_nil _ | exact Off.all (by with_reducible assumption) (by k_mem) | (refine' List.forall_mem_cons.mpr ⟨?q65a, ?q65b⟩; (case q65a => k_ne); (case q65b => k_all))))
  (k_with "z sub" => (first | exact Sub.nil _ | (refine' Sub.cons ?q66za ?q66zb; (case q66za => k_mem); (case q66zb => k_extra "z sub")) | (repeat (first | exact Sub.refl _ | refine' Sub.skip ?_))))
  (k_with "exec For Tuple Name cons nil" => (refine stop ?_))
  (k_with "pyIter ref" => (refine stop ?_))
  (k_with "call ref" => ((k_here; (with_reducible show wpAny _ _ (call (Value.ref 184) _ _) _ _ _); refine stop ?_)))
  (k_with "execs cons" => (((with_reducible show wpAny _ _ (execs (Stmt.If _ _ _ ⟨211, _, _, _⟩ :: _) _) _ _ _); refine stop ?_)))
  (k_with "assign Tuple" => ((k_here; (with_reducible show wpAny _ _ (assign (Expr.Tuple _ _ _) _ (Value.ref _)) _ _ _); k_dflt (refine' unpackN_ ?q67F ?q67N ?q67T ?q67k1 ?q67k2 ?q67k3 ?_; (case q67F => with_reducible assumption); (case q67N => with_reducible assumption); (case q67T => exact News.isTup (by with_reducible assumption) (by k_mem)); (case q67k1 => exact rfl); (case q67k2 => exact rfl); (case q67k3 => exact rfl)); intro h' F' N'; (try k_sweep))))
  (k_with "z msub" => (first | exact mnil | (refine' mcons ?q68za ?q68zb; (case q68za => k_mem); (case q68zb => k_extra "z msub"))))
  (k_with "call ref" => ((k_here; (with_reducible show wpAny _ _ (call (Value.ref 140) _ _) _ _ _); k_dflt (refine' call_new ?q92B ?q92F ?q92X ?q92T ?q92N ?q92c1 ?q92c2 ?q92c3 ?q92c4 ?q92hb ?q92H ?q92ot ?q92U ?q92z ?q92r ?q92lo ?q92s1 ?q92s2 ?_; (case q92F => k_asm); (case q92N => k_asm); (case q92B => k_asm); (case q92X => k_asm); (case q92T => k_asm); (case q92c1 => exact rfl); (case q92c2 => exact rfl); (case q92c3 => exact rfl); (case q92c4 => exact rfl); (case q92hb => k_extra "z binds"); (case q92H => k_extra "z hashnew"); (case q92ot => with_reducible assumption); (case q92U => k_updF); (case q92z => omega); (case q92r => k_room); (case q92lo => with_reducible assumption); (case q92s1 => omega); (case q92s2 => omega)); k_extra "z nm new"; (try k_sweep))))
  (k_with "call ref" => ((k_here; (with_reducible show wpAny _ _ (call (Value.ref 165) _ _) _ _ _); k_dflt (refine' call_blanks ?q93B ?q93F ?q93X ?q93T ?q93N ?q93c1 ?q93c2 ?q93c3 ?q93c4 ?q93H ?q93ot ?q93U ?q93z ?q93r ?q93dd ?q93lo ?_; (case q93F => k_asm); (case q93N => k_asm); (case q93B => k_asm); (case q93X => k_asm); (case q93T => k_asm); (case q93c1 => exact rfl); (case q93c2 => exact rfl); (case q93c3 => exact rfl); (case q93c4 => exact rfl); (case q93H => k_extra "z hash"); (case q93ot => with_reducible assumption); (case q93U => k_updF); (case q93z => omega); (case q93r => k_room); (case q93dd => omega); (case q93lo => with_reducible assumption)); k_extra "z nm blanks"; (try k_sweep))))
  (k_with "execs cons" => (((with_reducible show wpAny _ _ (execs (Stmt.For _ _ _ _ ⟨174, _, _, _⟩ :: _) _) _ _ _); refine stop ?_)))
  trivial
section
variable {prog : Program} {w : World} {g : Heap} {L fn : Addr} {s : Shared} {h : Heap} {tk : Nat} {m : Str → Option Value} {Q : Flow → Shared → Prop} {E1 : Value → Shared → Prop} {fa ta ca c5 sc : Addr} {ofa oca ocl ot o1 o2 o3 o4 : Obj} {ps : Array Value}
  {p : Program} {loose : List Str} {mean : ExcName → Option Value} {mg mb : Str → Option Value} {us ud ut : Tok} {size : Nat} {dflt : Array UInt8} {items : List Value} {ns : List Int}
set_option maxHeartbeats 4000000 in
theorem seg_head (B : Below callerA g [] g) (X : (hd0.heap_1 w.params).In g) (TT : Top p loose mean mg mb g) (F : Fr g L h m) (hsc : g.IsList sc items.toArray) (hints : IntsAre items ns) (hns : ns.length ≤ 63)
    (N : News g L h [(fa, ofa), (ca, oca), (ta, ot), (c5, ocl), (L + 1 + 1 + 1 + 1, o4), (L + 1 + 1 + 1, o3), (L + 1 + 1, o2), (L + 1, o1), (186, tabObj ps)])
    (hA : ApL [fa, ca, ta, c5, L + 1 + 1 + 1 + 1, L + 1 + 1 + 1, L + 1 + 1, L + 1, 186]) (H : LawH ofa oca ocl ca c5 ta) (lo : (ta == sysModules) = false) (hot : IsTbl prog w ot []) (hd4 : ∃ v, o4.data = .cell v) (hd3 : ∃ v, o3.data = .cell v) (hd2 : ∃ v, o2.data = .cell v) (hd1 : o1.data = .cell (some (.int ((8 * size : Nat) : Int) ut)))
    (hs1 : 1 ≤ size) (hs2 : size ≤ 2) (hm1 : m "_law_hash" = some (.ref fa)) (hm3 : m "script" = some (.ref sc)) (hm5 : m "size" = some (.int (size : Int) us)) (hm6 : m "default" = some (.bytes dflt ud))
    (hQ : ∀ h' tk', (∀ b o, g.get? b = some o → h'.get? b = some o) → GrownAt 186 h' → Q (.ret (.bool true)) { s with heap := h', toks := tk' }) :
    wpAny (model prog w) (callerA.deeper (lawEnv L fn)) (execs (lawBody.drop 5) (lawEnv L fn)) Q (fun e s' => wpAny (model prog w) (callerA.deeper (lawEnv L fn)) (leaving (lawEnv L fn) e) (fun _ s'' => E1 e s'') (fun e' s'' => E1 e' s'') s') { s with heap := h, toks := tk } := by
  conv in (execs (List.drop 5 lawBody) _) => arg 1; whnf
  obtain ⟨a1, a2, a3, a4, a5, a6, a7, a8, _⟩ := hA
  obtain ⟨v4, h4⟩ := hd4
  obtain ⟨v3, h3⟩ := hd3
  obtain ⟨v2, h2⟩ := hd2
  have hl0 : ([] : List Oct).length = 0 := rfl
  k_steps
  unfold Stop
  with_reducible rename Fr _ _ _ _ => F9
  with_reducible rename News _ _ _ _ => N9
  rename_i d9 hA9 oH9 loH hsH fsH hiH fiH y1 y2 lH9 hB9 oM9 dM9 lP9 hC9 y3 y4 lPP9 hD9 hE9 hF9 oK9 dK9 tK9 kK9 lV9 hG9 y5 y6 lVV9 hH9
  have hkbH := kb_empty (intKind prog w) hiH
  have hlK0 : TK.length ≤ 8 * size + 1 := by simpa using hlK
  obtain ⟨nxd, nxa, nda⟩ := neN
  exact seg_loop B X TT F9 hsc hints hns (newsSub (l := (xN, _) :: (dN, _) :: (aN, odN) :: (d9, oH9) :: (lP9, listOf (List.toArray []) _) :: (lV9, _) :: (lK, _) :: (fa, ofa) :: (ca, oca) :: (c5, ocl) :: (ta, oN) :: (L + 1 + 1 + 1 + 1, o4) :: (L + 1 + 1 + 1, oK9) :: (L + 1 + 1, oM9) :: (L + 1, o1) :: (186, tabObj ps) :: []) N9 (by k_extra "z sub")) (by k_extra "z apl") (off_nil _) H lo ⟨htN, by omega, hdN, by omega, okN, inN, hkbH, Nat.le_refl _, rep_nil _ _, Nat.le_refl _, (fun v hv => by cases hv), .inl rfl, .inl rfl, ⟨_, h4⟩, ⟨_, dK9⟩, dM9, loH⟩ ⟨TK, _, exN, blK⟩ (vals_f _ _ _ _ _ _ _ _ _ _) hd1 hs1 hs2 hm1 rfl hm3 rfl hm5 hm6 rfl rfl rfl hQ
end
end -- S36
section -- S37a
theorem end_ok {c : ClaimW} {cl : Str → Option Addr} {mean : ExcName → Option Value} {args : List WData} {s₁ s' : Shared} {v : Value} (hv : v = .bool true) (hk : ∀ b o, s₁.heap.get? b = some o → s'.heap.get? b = some o) (hg : s'.gens = #[]) (hn : ∀ cls, c.raises args cls = false) (hp : c.post args (.bool true) args = true) (hos : s'.os = s₁.os) :
    GoodW c cl mean args s₁ (.ok (.ret v)) s' := by
  subst hv
  exact ⟨.inl ⟨_, _, _, rfl, hn, .bool true, hp, unshared_nil⟩, hk, hos, hg⟩
theorem size_ok (x : Int) : ∃ n : Nat, (x.fmod 4).fdiv 3 + 1 = (n : Int) ∧ 1 ≤ n ∧ n ≤ 2 := by
  rw [Int.fmod_eq_emod_of_nonneg x (by decide), Int.fdiv_eq_ediv_of_nonneg _ (by decide)]
  exact ⟨((x % 4) / 3 + 1).toNat, by omega, by omega, by omega⟩
theorem dep_ok {o : Obj} {x : Int} {t : Tok} (h : o.data = .cell (some (.int (8 * ((x.fmod 4).fdiv 3 + 1)) t))) : ∃ n : Nat, (x.fmod 4).fdiv 3 + 1 = (n : Int) ∧ 1 ≤ n ∧ n ≤ 2 ∧ o.data = .cell (some (.int ((8 * n : Nat) : Int) t)) := by
  obtain ⟨n, e, a, b⟩ := size_ok x
  exact ⟨n, e, a, b, by rw [h, e]; rfl⟩
theorem dep_ok1 {o : Obj} {t : Tok} (h : o.data = .cell (some (.int (8 * 1) t))) : ∃ n : Nat, (1 : Int) = (n : Int) ∧ 1 ≤ n ∧ n ≤ 2 ∧ o.data = .cell (some (.int ((8 * n : Nat) : Int) t)) := ⟨1, rfl, by omega, by omega, h⟩
theorem lawH_made {name qual : Str} {params : Arguments} {body : List Stmt} {scope : Scope} {cl : List (Str × Addr)} {doc pm ct : Value} {ca c5 ta : Addr} {oca ocl : Obj} {vs : Array Value} {t : Tok}
    (h1 : fnX name qual params body scope cl .none .none doc pm none (.ref ca) ct = fnX "_law_hash" "law.<locals>._law_hash" hashParams hashBody hashScope [("table", c5)] .none .none doc pm none (.ref ca) ct)
    (d1 : oca.data = .fields vs) (hq : qual = "law.<locals>._law_hash") (d2 : vs[1]? = some (.str qual t)) (d3 : ocl.data = .cell (some (.ref ta))) : LawH (fnMade name qual params body scope cl doc pm ca ct) oca ocl ca c5 ta :=
  ⟨⟨pm, doc, ct, none, by rw [← h1]⟩, ⟨vs, t, d1, by rw [d2, hq]⟩, d3⟩
section
variable {prog : Program} {w : World} {g : Heap} {L fn : Addr} {s0 : Shared} {m : Str → Option Value} {Q : Flow → Shared → Prop} {E1 : Value → Shared → Prop} {fa ta ca c5 sc : Addr} {ofa oca ocl ot o1 o2 o3 o4 : Obj} {ps : Array Value}
  {p : Program} {loose : List Str} {mean : ExcName → Option Value} {mg mb : Str → Option Value} {us ud ut : Tok} {size : Nat} {dflt : Array UInt8} {items : List Value} {ns : List Int} {scope : Scope} {body : List Stmt}
theorem seg_top (hscope : scope = lawScope) (hbody : body = lawBody.drop 5) (B : Below callerA g [] g) (X : (hd0.heap_1 w.params).In g) (TT : Top p loose mean mg mb g) (F : Fr g L s0.heap m) (hsc : g.IsList sc items.toArray) (hints : IntsAre items ns) (hns : ns.length ≤ 63)
    (N : News g L s0.heap [(fa, ofa), (ca, oca), (ta, ot), (c5, ocl), (L + 1 + 1 + 1 + 1, o4), (L + 1 + 1 + 1, o3), (L + 1 + 1, o2), (L + 1, o1), (186, tabObj ps)])
    (hA : ApL [fa, ca, ta, c5, L + 1 + 1 + 1 + 1, L + 1 + 1 + 1, L + 1 + 1, L + 1, 186]) (H : LawH ofa oca ocl ca c5 ta) (lo : (ta == sysModules) = false) (hot : IsTbl prog w ot []) (hd4 : ∃ v, o4.data = .cell v) (hd3 : ∃ v, o3.data = .cell v) (hd2 : ∃ v, o2.data = .cell v) (hd1 : o1.data = .cell (some (.int ((8 * size : Nat) : Int) ut)))
    (hs1 : 1 ≤ size) (hs2 : size ≤ 2) (hm1 : m "_law_hash" = some (.ref fa)) (hm3 : m "script" = some (.ref sc)) (hm5 : m "size" = some (.int (size : Int) us)) (hm6 : m "default" = some (.bytes dflt ud))
    (hQ : ∀ h' tk', (∀ b o, g.get? b = some o → h'.get? b = some o) → GrownAt 186 h' → Q (.ret (.bool true)) { s0 with heap := h', toks := tk' }) :
    wpAny (model prog w) (callerA.deeper (envOfC "law" scope L fn (.ref 188))) (execs body (envOfC "law" scope L fn (.ref 188))) Q (fun e s' => wpAny (model prog w) (callerA.deeper (envOfC "law" scope L fn (.ref 188))) (leaving (envOfC "law" scope L fn (.ref 188)) e) (fun _ s'' => E1 e s'') (fun e' s'' => E1 e' s'') s') s0 := by
  subst hscope hbody
  exact seg_head (s := s0) (h := s0.heap) (tk := s0.toks) B X TT F hsc hints hns N hA H lo hot hd4 hd3 hd2 hd1 hs1 hs2 hm1 hm3 hm5 hm6 hQ
end
end -- S37a
section -- S37
theorem lines_s37_1 : True := by
  w_top off
  k_with_none
  (k_with "execs cons" => (((with_reducible show wpAny _ _ (execs (Stmt.Assign _ _ _ :: _) _) _ _ _); refine execsGen fun P8 hP8 => ?_)))
  (k_with "execs cons" => (((with_reducible show wpAny _ _ (execs (Stmt.Expr _ _ :: _) _) _ _ _); refine execsGen fun P8 hP8 => ?_)))
  (k_with "execs cons" => (((with_reducible show wpAny _ _ (execs (Stmt.AugAssign _ _ _ _ :: _) _) _ _ _); refine execsGen fun P8 hP8 => ?_)))
  (k_with "FinQ" => ((refine finOut (by with_reducible assumption) ?_; (try dsimp only))))
  (k_with "execs cons" => (((with_reducible show wpAny _ _ (execs (Stmt.Assign _ _ ⟨167, _, _, _⟩ :: _) _) _ _ _); refine stop ?_)))
  (k_with "z apx" => (first | exact Apx.nil _ | (refine' Apx.cons ?q50za ?q50zb; (case q50za => k_ne); (case q50zb => k_extra "z apx"))))
  (k_with "z apl" => (first | exact True.intro | (refine' And.intro ?q51za ?q51zb; (case q51za => k_extra "z apx"); (case q51zb => k_extra "z apl"))))
  (k_with "z top" => ((
  unfold Stop
  (with_reducible rename News _ _ _ _ => N0)
  (with_reducible rename Fr _ _ _ _ => F0)
  (with_reducible rename IntsAre _ _ => hI0)
  (with_reducible rename Below _ _ _ _ => K0)
  (with_reducible rename Frag.In _ _ => X0)
  (with_reducible rename Top topProg _ _ _ _ _ => T0)
  (with_reducible rename (_ == sysModules) = false => lo0)
  (with_reducible rename Obj.IsDictOf (intKind _ _) _ [] => hi0)
  (with_reducible rename _ = Data.cell (some (Value.int (8 * _) _)) => d0)
  (with_reducible rename _ = Data.cell (some (Value.ref _)) => dt0)
  (with_reducible rename _ = Data.fields _ => df0)
  (with_reducible rename _[1]? = some (Value.str _ _) => dq0)
  (with_reducible rename Shared.gens _ = #[] => hg0)
  (first | obtain ⟨n, en, n1, n2, e1⟩ := dep_ok d0 | obtain ⟨n, en, n1, n2, e1⟩ := dep_ok1 d0)
  (with_reducible refine' seg_top ?q94he ?q94hb K0 X0 T0 F0 lifted hI0 ?q94hn N0 ?q94hA ?q94H lo0 ?q94ot ⟨_, ?q94c4⟩ ⟨_, ?q94c3⟩ ⟨_, ?q94c2⟩ e1 n1 n2 ?q94m1 ?q94m3 ?q94m5 ?q94m6 ?q94hQ)
  (case q94he => kernel_rfl)
  (case q94hb => kernel_rfl)
  (case q94hn => omega)
  (case q94hA => k_extra "z apl")
  (case q94H => refine lawH_made ?q94h1 df0 ?q94h2 dq0 dt0; (case q94h1 => kernel_rfl); (case q94h2 => kernel_rfl))
  (case q94ot => exact kb_empty (bytesKind _ _) hi0)
  (case q94c4 => with_reducible assumption)
  (case q94c3 => with_reducible assumption)
  (case q94c2 => with_reducible assumption)
  (case q94m1 => exact rfl)
  (case q94m3 => exact rfl)
  (case q94m6 => exact rfl)
  (case q94m5 => rw [← en]; exact rfl)
  (case q94hQ => intro h9 tk9 hk9 hG9; refine ⟨end_ok ?q94v hk9 hg0 ?q94ra ?q94po ?q94os, hG9, True.intro⟩; (case q94v => exact rfl); (case q94ra => intro c9; kernel_rfl); (case q94po => kernel_rfl); (case q94os => exact rfl)))))
  trivial
theorem seenQ : (chainsOk viewQ && opensWell pQ && (frees (OpenRow.toRowW (OpenLaw.row PySem.Challenge.rw_iw0038_01)) && (RowW.within (OpenRow.toRowW (OpenLaw.row PySem.Challenge.rw_iw0038_01))).isEmpty)) = true := by kernel_rfl
set_option maxHeartbeats 4000000 in
theorem law_holds : PySem.Challenge.rw_iw0038_01.Holds := hd0 (by
  refine holds_open (q := viewQ) (loose := [Str.ofString "SparseMerkleTree"]) (Xt := XtQ) (XP := XL viewQ []) (Yf := Hook.obs HQ) (Ya := Hook.val HQ) (YP := Hook.says HQ) (N := 2662) leftQ (Hook.of HQ) (Hook.keeps HQ) (fun s e => xl_of s (Bool.and_eq_true_iff.mp e).1) XL.keeps (by rfl) (by rfl) (by rfl) (fun s e => recFacts_of (Bool.and_eq_true_iff.mp e).2) (by rfl) (row_said wellQ) seenQ ⟨rfl, rfl, rfl, rfl, rfl, by decide +kernel⟩ ?hw ?hc
  (case hw => w_witness2)
  k_go0
  k_steps
  all_goals k_extra "z top")
end -- S37
end Smt
theorem PySem.Challenge.cw_iw0038_01_holds : PySem.Challenge.rw_iw0038_01.Holds :=
  Smt.law_holds
