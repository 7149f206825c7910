import PyProof.Rows.All
import Wide.All
import OpenK.AllK
import Wide.FinOn
import Lean
import PySem.Challenge.RW_rs0192_01
set_option Elab.async false

section PartEP
open PySem
set_option Elab.async false
namespace RS
noncomputable def pick {α : Type} (ne : Nonempty α) (P : α → Prop) : α := @Classical.epsilon α ne fun x => ¬P x
theorem of_pick {α : Type} (ne : Nonempty α) (P : α → Prop) (h : P (pick ne P)) (x : α) : P x :=
  Classical.byContradiction fun hx => @Classical.epsilon_spec_aux α ne (fun x => ¬P x) ⟨x, hx⟩ h
theorem neW : Nonempty World := ⟨⟨fun _ _ => 0, { strHash := fun _ => 0, shareClass := fun _ => 0, mergeTok := fun t => t, idOf := fun _ => 0, idOfShared := fun _ _ => 0, followText := fun _ => false, idOfImm := fun _ => 0 }⟩⟩
theorem neS : Nonempty Shared := ⟨{}⟩
end RS
end PartEP

theorem RS.forgetH0 {prog : PySem.Program} {w : PySem.World} {A : PySem.Around} {env : PySem.Env} {Q : PySem.Flow → PySem.Shared → Prop} {E : PySem.Value → PySem.Shared → Prop} {s : PySem.Shared}
    (h : PySem.wpAny (PySem.model prog w) A (PySem.execs [] env) Q E s) : PySem.wpAny (PySem.model prog w) A (PySem.execs [] env) Q E s := by
  first | (walk1; fail "no") | skip
  w_top off
  exact h

section PartH0
open PySem PySem.W PyProof.Rows
set_option Elab.async false
set_option maxRecDepth 100000
namespace RS
theorem hdTwo {α β γ : Type} {x : Option α} {f : α → β} {g : α → γ} {a : β} {b : γ} (h1 : x.map f = some a) (h2 : x.map g = some b) : x.map (fun s => (f s, g s)) = some (a, b) := by
  cases x with
  | none => cases h1
  | some s => cases h1; cases h2; rfl
def hdSay (b : Bool) (row : String) (p q : Program) (loose : List Str) (Xt : Shared → Bool) {α : Type} (Yf : Shared → α) (Ya : World → α) (N : Nat) (g0 : Bool) : Prop :=
  ∀ w : World, (fencedOpening treeTable p w N).map (fun s₀ => (topFrom treeTable p (w.withFollow row b) N s₀).map (fun s => (openSeen q loose (importedModules p.main.body) Xt g0 s, Yf s))) = some (some (openGood q loose, Ya (w.withFollow row b)))
theorem hdOf {p q : Program} {loose : List Str} {Xt : Shared → Bool} {α : Type} {Yf : Shared → α} {Ya : World → α} {N : Nat} {g0 : Bool} (row : String) (h1 : hdSay false row p q loose Xt Yf Ya N g0) (h2 : hdSay true row p q loose Xt Yf Ya N g0) :
    LeftO p q loose Xt Yf Ya N g0 := LeftO.of_split row fun w => hdTwo (h1 w) (h2 w)
abbrev hdRow (b : Bool) (row : String) {p q : Program} {loose : List Str} {Xt : Shared → Bool} {α : Type} {Yf : Shared → α} {Ya : World → α} {N : Nat} {g0 : Bool} {Q R : Prop} (_ : LeftO p q loose Xt Yf Ya N g0 ∧ Q → R) : Prop := hdSay b row p q loose Xt Yf Ya N g0
abbrev hdLeft {p q : Program} {loose : List Str} {Xt : Shared → Bool} {α : Type} {Yf : Shared → α} {Ya : World → α} {N : Nat} {g0 : Bool} {Q R : Prop} (_ : LeftO p q loose Xt Yf Ya N g0 ∧ Q → R) : Prop := LeftO p q loose Xt Yf Ya N g0
noncomputable def vw : Program := { PySem.Challenge.rw_rs0192_01.row.prog with main := { PySem.Challenge.rw_rs0192_01.row.prog.main with body := [0, 2, 3, 4, 11, 13, 14, 15, 16, 17, 18].filterMap fun i => PySem.Challenge.rw_rs0192_01.row.prog.main.body[i]? } }
def lo : List Str := [Str.ofString "insort_right", Str.ofString "bisect_right", Str.ofString "insort_left", Str.ofString "bisect_left", Str.ofString "Whitespace"]
theorem wellOk : OpenLaw.wellSaid PySem.Challenge.rw_rs0192_01 = true := by kernel_rfl
section
local macro_rules | `(tactic| o_law) => `(tactic| refine holds_law RS.wellOk fun said => ?_)
local macro_rules | `(tactic| o_head $H) => `(tactic| (
  refine (fun (HH : Hook) => And.elim (fun hl hc => holds_open (q := RS.vw) (loose := RS.lo) (Xt := fun s => xlAt RS.vw [] s && recOk (RowW.records PySem.Challenge.rw_rs0192_01.row.toRowW) s) (XP := XL RS.vw []) (Yf := Hook.obs HH) (Ya := Hook.val HH) (YP := Hook.says HH) (N := 2064) hl (Hook.of HH) (Hook.keeps HH) (fun s e => xl_of s (Bool.and_eq_true_iff.mp e).1) XL.keeps (by rfl) (by rfl) (by rfl) (fun s e => recFacts_of (Bool.and_eq_true_iff.mp e).2) (by rfl) (by first | assumption | decide +kernel) (by decide +kernel) ⟨rfl, rfl, rfl, rfl, rfl, by decide +kernel⟩ ?hw hc)) $H ?hc))
set_option maxHeartbeats 8000000 in
open_top hd for PySem.Challenge.rw_rs0192_01
end
theorem hdF : hdRow false "special-get-raises" hd := by
  unfold hdRow hdSay
  intro w
  kernel_rfl
theorem hdT : hdRow true "special-get-raises" hd := by
  unfold hdRow hdSay
  intro w
  kernel_rfl
theorem hdL : hdLeft hd := hdOf "special-get-raises" hdF hdT
end RS
end PartH0

theorem RS.forgetW1 {prog : PySem.Program} {w : PySem.World} {A : PySem.Around} {env : PySem.Env} {Q : PySem.Flow → PySem.Shared → Prop} {E : PySem.Value → PySem.Shared → Prop} {s : PySem.Shared}
    (h : PySem.wpAny (PySem.model prog w) A (PySem.execs [] env) Q E s) : PySem.wpAny (PySem.model prog w) A (PySem.execs [] env) Q E s := by
  first | (walk1; fail "no") | skip
  w_top off
  exact h

section PartW1
open PySem PySem.W PyProof.Rows PySem.Calls
set_option Elab.async false
set_option maxRecDepth 100000
namespace RS
theorem fillT : (fun (_ : Params → Frag) (_ : OpenLaw) => True) hd.heap_1 PySem.Challenge.rw_rs0192_01 := by
  k_fill
  trivial
abbrev PG : Program := PySem.Challenge.rw_rs0192_01.row.prog

theorem enterC {prog : Program} {w : World} {A : Around} {s : Shared} {K : Frag} {p : Program} {loose : List Str} {mean : ExcName → Option Value} {mg mb : Str → Option Value} {g : Heap}
    {R : Result → Shared → Prop} {name qual : Str} {params : Arguments} {body : List Stmt} {scope : Scope} {dV kV doc pm cdv ct oc : Value} {an od : Option Addr} {osl : Array (Option Value)} {f : Addr} {args : Args} {binds : List (Str × Value)}
    (X : K.In g) (T : Top p loose mean mg mb g) (hk : ∀ b o, g.get? b = some o → s.heap.get? b = some o)
    (ho : K.lookup f = some ⟨oc, od, .func (fnX name qual params body scope [] dV kV doc pm an cdv ct), osl⟩) (hcd : codeIn K cdv qual = true) (hroom : A.depth < recursionLimit)
    (hbind : BindsTo s (fnX name qual params body scope [] dV kV doc pm an cdv ct) args binds) (hloc : ∀ y ∈ binds, scope.names.lookup y.1 = some .local)
    (hco : scope.isCoroutine = false) (hgen : scope.isGenerator = false) (hkd : scope.kind = .function)
    (hcell : ∀ x ∈ scope.names, x.2 ≠ .cell)
    (h : ∀ h₁, h₁.Ns s.heap.objs.size (fun y => binds.reverse.lookup y) → (∀ b o, s.heap.get? b = some o → h₁.get? b = some o) →
      wpAny (model prog w) (A.deeper (envX qual scope s.heap.objs.size f cdv [])) (execs body (envX qual scope s.heap.objs.size f cdv []))
        (fun f s' => R (.ok (.ret (match f with | .ret v => v | _ => .none))) s') (fun _ _ => False) { s with heap := h₁, toks := s.toks + binds.length }) :
    codeAny (model prog w) A (.call (.ref f) args) R s := by
  have XS := X.keeps hk
  refine codeAny_call_def (fd := fnX name qual params body scope [] dV kV doc pm an cdv ct) (body := body) (binds := binds) hroom (XS _ _ ho) rfl (T.nolimit.keeps hk) (codeRec_of XS hcd) rfl hbind hcell hloc (fun h₁ hns hk₁ => ?_) hco hgen hkd
  exact wpAny_mono (h h₁ hns hk₁) (fun _ _ x => x) fun _ _ x => x.elim

theorem bindsTo_peek {K : Frag} {s : Shared} {fd : FuncData} {args : Args} {binds : List (Str × Value)} (X : K.In s.heap) (e : ∀ S, peek K S (bindArgs fd args) = some binds) : BindsTo s fd args binds :=
  fun _ _ _ _ hq => (Looks.of_peek X (e _)).here hq

local macro_rules | `(tactic| walk_at "call builtin:len") => `(tactic| (k_here; (with_reducible show wpAny _ _ (call (Value.builtin "len") [Value.ref _]) _ _ _); (refine len_list (Fr.lst (by assumption) (by assumption)) (by assumption) ?_)))
def Stop (P : Prop) : Prop := P
theorem Stop.of {P : Prop} (h : Stop P) : P := h
local macro_rules | `(tactic| walk_at $k:str) => if ["exec While Compare cons nil", "KswEnd"].contains k.getString then `(tactic| (refine Stop.of ?_)) else Lean.Macro.throwUnsupported
def BInv (q : Int → Bool) (ns : List Int) (lo hi : Int) : Prop :=
  0 ≤ lo ∧ lo ≤ hi ∧ hi ≤ (ns.length : Int) ∧ (∀ i : Nat, (i : Int) < lo → ∀ y, ns[i]? = some y → q y = true) ∧ (∀ i : Nat, hi ≤ (i : Int) → ∀ y, ns[i]? = some y → q y = false)
theorem BInv.start (q : Int → Bool) (ns : List Int) {n : Nat} (h : n = ns.length) : BInv q ns 0 (n : Int) := by
  subst h
  refine ⟨Int.le_refl _, by omega, Int.le_refl _, fun i h => by omega, fun i h y e => ?_⟩
  have := (List.getElem?_eq_some_iff.mp e).1
  omega
/-- q is true up to a place, and false from there on -/
def Steps (q : Int → Bool) (ns : List Int) : Prop := ∀ (i j : Nat), i ≤ j → ∀ x y, ns[i]? = some x → ns[j]? = some y → q y = true → q x = true
theorem mid_in {lo hi : Int} (h : lo < hi) : lo ≤ (lo + hi).fdiv 2 ∧ (lo + hi).fdiv 2 < hi := by
  have := Int.fdiv_eq_ediv_of_nonneg (lo + hi) (b := 2) (by decide)
  omega
theorem meas_down {lo hi : Int} (h : lo < hi) : ((lo + hi).fdiv 2 - lo).toNat < (hi - lo).toNat := by have := mid_in h; omega
theorem meas_up {lo hi : Int} (h : lo < hi) : (hi - ((lo + hi).fdiv 2 + 1)).toNat < (hi - lo).toNat := by have := mid_in h; omega
theorem BInv.up {q : Int → Bool} {ns : List Int} {lo hi : Int} (hb : BInv q ns lo hi) (hlt : lo < hi) (hs : Steps q ns) (hq : q (ns.getD ((lo + hi).fdiv 2).toNat 0) = true) : BInv q ns ((lo + hi).fdiv 2 + 1) hi := by
  obtain ⟨b1, b2, b3, b4, b5⟩ := hb
  have hm := mid_in hlt
  refine ⟨by omega, by omega, b3, fun i hi' y hy => ?_, b5⟩
  have hl : ((lo + hi).fdiv 2).toNat < ns.length := by omega
  have e : ns[((lo + hi).fdiv 2).toNat]? = some (ns.getD ((lo + hi).fdiv 2).toNat 0) := by
    rw [List.getD_eq_getElem?_getD, List.getElem?_eq_getElem hl]; rfl
  exact hs i _ (by omega) y _ hy e hq
theorem BInv.down {q : Int → Bool} {ns : List Int} {lo hi : Int} (hb : BInv q ns lo hi) (hlt : lo < hi) (hs : Steps q ns) (hq : q (ns.getD ((lo + hi).fdiv 2).toNat 0) = false) : BInv q ns lo ((lo + hi).fdiv 2) := by
  obtain ⟨b1, b2, b3, b4, b5⟩ := hb
  have hm := mid_in hlt
  refine ⟨b1, by omega, by omega, b4, fun i hi' y hy => ?_⟩
  have hl : ((lo + hi).fdiv 2).toNat < ns.length := by omega
  have e : ns[((lo + hi).fdiv 2).toNat]? = some (ns.getD ((lo + hi).fdiv 2).toNat 0) := by
    rw [List.getD_eq_getElem?_getD, List.getElem?_eq_getElem hl]; rfl
  cases hy' : q y with
  | false => rfl
  | true =>
    have := hs _ i (by omega) _ y e hy hy'
    rw [this] at hq; cases hq
theorem countP_cut {q : Int → Bool} : ∀ {ns : List Int} {n : Nat}, n ≤ ns.length → (∀ i : Nat, i < n → ∀ y, ns[i]? = some y → q y = true) → (∀ i : Nat, n ≤ i → ∀ y, ns[i]? = some y → q y = false) → ns.countP q = n
  | [], n, h, _, _ => by simp at h; simp [h]
  | a :: r, 0, _, _, h2 => by
    rw [List.countP_eq_zero]
    intro y hy
    obtain ⟨i, hi⟩ := List.mem_iff_getElem?.mp hy
    simp [h2 i (Nat.zero_le _) y hi]
  | a :: r, n + 1, h, h1, h2 => by
    have ha : q a = true := h1 0 (Nat.zero_lt_succ _) a rfl
    rw [List.countP_cons_of_pos ha, countP_cut (n := n) (by simpa using h) (fun i hi y hy => h1 (i + 1) (by omega) y (by simpa using hy)) (fun i hi y hy => h2 (i + 1) (by omega) y (by simpa using hy))]
theorem BInv.done {q : Int → Bool} {ns : List Int} {lo hi : Int} (hb : BInv q ns lo hi) (hlt : ¬ lo < hi) : lo = (ns.countP q : Int) := by
  obtain ⟨b1, b2, b3, b4, b5⟩ := hb
  have := countP_cut (q := q) (ns := ns) (n := lo.toNat) (by omega) (fun i hi' y hy => b4 i (by omega) y hy) (fun i hi' y hy => b5 i (by omega) y hy)
  omega

set_option maxHeartbeats 4000000 in
theorem bl_spec {w : World} {A : Around} {s : Shared} {p : Program} {loose : List Str} {mean : ExcName → Option Value} {mg mb : Str → Option Value} {g : Heap}
    {Q E : Value → Shared → Prop} {a : Addr} {vs : List Value} {ns : List Int} {x : Int} {tx : Tok}
    (X : (hd.heap_1 w.params).In g) (T : Top p loose mean mg mb g) (hk : ∀ b o, g.get? b = some o → s.heap.get? b = some o)
    (hh : A.handled = none) (hroom : A.depth + 5 < recursionLimit)
    (hl : s.heap.IsList a vs.toArray) (hi : IntsAre vs ns) (hsz : (vs.toArray.size : Int) < 2 ^ 63) (hst : Steps (fun y => decide (y < x)) ns)
    (h : ∀ t h' tk, (∀ b o, s.heap.get? b = some o → h'.get? b = some o) → Q (.int (ns.countP (fun y => decide (y < x)) : Int) t) { s with heap := h', toks := tk }) :
    wpAny (model PG w) A (call (.ref 71) [.ref a, .int x tx]) Q E s := by
  refine wpAny_call ?_
  refine' enterC (K := hd.heap_1 w.params) X T hk (binds := [("a", .ref a), ("x", .int x tx), ("lo", .int 0 259), ("hi", .none), ("key", .none)]) ?ho ?hcd ?hroom ?hb ?hloc ?c1 ?c2 ?c3 ?c4 ?_
  case ho => k_is
  case hcd => k_is
  case hroom => omega
  case hb => exact bindsTo_peek (X.keeps hk) (fun S => by kernel_rfl)
  case hloc => exact locs rfl
  case c1 => exact rfl
  case c2 => exact rfl
  case c3 => exact rfl
  case c4 => decide
  intro h₁ hns hk₁
  have F : Fr s.heap s.heap.objs.size h₁ _ := ⟨hns, hk₁, Nat.le_refl _⟩
  have N : News s.heap s.heap.objs.size h₁ [] := News.nil
  have X' := X.keeps hk
  have T' := T.keeps hk
  clear hns hk₁ X T
  k_steps
  unfold Stop
  rename_i F' N'
  refine' ksw_while (fun _ => []) (fun c : Int × Int × Nat × Nat => [("lo", .int c.1 c.2.2.1), ("hi", .int c.2.1 c.2.2.2)]) (fun _ => True) ["mid"] (fun c => BInv (fun y => decide (y < x)) ns c.1 c.2.1) (fun c => (c.2.1 - c.1).toNat) (0, ?z1, ?z2, ?z3) F' N' trivial ?hk (BInv.start _ _ (by have := hi.length; simpa using this)) ?turn PassesOwn.never
  case hk => kst_all
  case turn =>
    rintro ⟨lo, hi', t1, t2⟩ kU kH kTk _ hI kF kN
    simp only [kstB] at kF
    dsimp only at hI kF ⊢
    have hI' := hI
    obtain ⟨b1, b2, b3, _, _⟩ := hI'
    k_steps
    · have c1 : lo < hi' := by assumption
      have c2 : ns.getD ((lo + hi').fdiv 2).toNat 0 < x := by assumption
      rename Fr _ _ _ _ => F9
      rename News _ _ _ _ => N9
      unfold Stop
      exact ksw_end (_, _, _, _) F9 N9 (fun _ h => nomatch h) trivial (by kst_all) (by ksw_same) (hI.up c1 hst (decide_eq_true c2)) (by exact meas_up c1)
    · have c1 : lo < hi' := by assumption
      have c2 : ¬ ns.getD ((lo + hi').fdiv 2).toNat 0 < x := by assumption
      rename Fr _ _ _ _ => F9
      rename News _ _ _ _ => N9
      unfold Stop
      exact ksw_end (_, _, _, _) F9 N9 (fun _ h => nomatch h) trivial (by kst_all) (by ksw_same) (hI.down c1 hst (decide_eq_false c2)) (by exact meas_down c1)
    · have c1 : ¬ lo < hi' := by assumption
      dsimp only
      rw [hI.done c1]
      exact h _ _ _ kF.keep
set_option maxHeartbeats 4000000 in
theorem bl_spec4 {w : World} {A : Around} {s : Shared} {p : Program} {loose : List Str} {mean : ExcName → Option Value} {mg mb : Str → Option Value} {g : Heap}
    {Q E : Value → Shared → Prop} {a : Addr} {vs : List Value} {ns : List Int} {x : Int} {tx t0 : Tok}
    (X : (hd.heap_1 w.params).In g) (T : Top p loose mean mg mb g) (hk : ∀ b o, g.get? b = some o → s.heap.get? b = some o)
    (hh : A.handled = none) (hroom : A.depth + 5 < recursionLimit)
    (hl : s.heap.IsList a vs.toArray) (hi : IntsAre vs ns) (hsz : (vs.toArray.size : Int) < 2 ^ 63) (hst : Steps (fun y => decide (y < x)) ns)
    (h : ∀ t h' tk, (∀ b o, s.heap.get? b = some o → h'.get? b = some o) → Q (.int (ns.countP (fun y => decide (y < x)) : Int) t) { s with heap := h', toks := tk }) :
    wpAny (model PG w) A (call (.ref 71) [.ref a, .int x tx, .int 0 t0, .none]) Q E s := by
  refine wpAny_call ?_
  refine' enterC (K := hd.heap_1 w.params) X T hk (binds := [("a", .ref a), ("x", .int x tx), ("lo", .int 0 t0), ("hi", .none), ("key", .none)]) ?ho ?hcd ?hroom ?hb ?hloc ?c1 ?c2 ?c3 ?c4 ?_
  case ho => k_is
  case hcd => k_is
  case hroom => omega
  case hb => exact bindsTo_peek (X.keeps hk) (fun S => by kernel_rfl)
  case hloc => exact locs rfl
  case c1 => exact rfl
  case c2 => exact rfl
  case c3 => exact rfl
  case c4 => decide
  intro h₁ hns hk₁
  have F : Fr s.heap s.heap.objs.size h₁ _ := ⟨hns, hk₁, Nat.le_refl _⟩
  have N : News s.heap s.heap.objs.size h₁ [] := News.nil
  have X' := X.keeps hk
  have T' := T.keeps hk
  clear hns hk₁ X T
  k_steps
  unfold Stop
  rename_i F' N'
  refine' ksw_while (fun _ => []) (fun c : Int × Int × Nat × Nat => [("lo", .int c.1 c.2.2.1), ("hi", .int c.2.1 c.2.2.2)]) (fun _ => True) ["mid"] (fun c => BInv (fun y => decide (y < x)) ns c.1 c.2.1) (fun c => (c.2.1 - c.1).toNat) (0, ?z1, ?z2, ?z3) F' N' trivial ?hk (BInv.start _ _ (by have := hi.length; simpa using this)) ?turn PassesOwn.never
  case hk => kst_all
  case turn =>
    rintro ⟨lo, hi', t1, t2⟩ kU kH kTk _ hI kF kN
    simp only [kstB] at kF
    dsimp only at hI kF ⊢
    have hI' := hI
    obtain ⟨b1, b2, b3, _, _⟩ := hI'
    k_steps
    · have c1 : lo < hi' := by assumption
      have c2 : ns.getD ((lo + hi').fdiv 2).toNat 0 < x := by assumption
      rename Fr _ _ _ _ => F9
      rename News _ _ _ _ => N9
      unfold Stop
      exact ksw_end (_, _, _, _) F9 N9 (fun _ h => nomatch h) trivial (by kst_all) (by ksw_same) (hI.up c1 hst (decide_eq_true c2)) (by exact meas_up c1)
    · have c1 : lo < hi' := by assumption
      have c2 : ¬ ns.getD ((lo + hi').fdiv 2).toNat 0 < x := by assumption
      rename Fr _ _ _ _ => F9
      rename News _ _ _ _ => N9
      unfold Stop
      exact ksw_end (_, _, _, _) F9 N9 (fun _ h => nomatch h) trivial (by kst_all) (by ksw_same) (hI.down c1 hst (decide_eq_false c2)) (by exact meas_down c1)
    · have c1 : ¬ lo < hi' := by assumption
      dsimp only
      rw [hI.done c1]
      exact h _ _ _ kF.keep
set_option maxHeartbeats 4000000 in
theorem br_spec {w : World} {A : Around} {s : Shared} {p : Program} {loose : List Str} {mean : ExcName → Option Value} {mg mb : Str → Option Value} {g : Heap}
    {Q E : Value → Shared → Prop} {a : Addr} {vs : List Value} {ns : List Int} {x : Int} {tx : Tok}
    (X : (hd.heap_1 w.params).In g) (T : Top p loose mean mg mb g) (hk : ∀ b o, g.get? b = some o → s.heap.get? b = some o)
    (hh : A.handled = none) (hroom : A.depth + 5 < recursionLimit)
    (hl : s.heap.IsList a vs.toArray) (hi : IntsAre vs ns) (hsz : (vs.toArray.size : Int) < 2 ^ 63) (hst : Steps (fun y => decide (y ≤ x)) ns)
    (h : ∀ t h' tk, (∀ b o, s.heap.get? b = some o → h'.get? b = some o) → Q (.int (ns.countP (fun y => decide (y ≤ x)) : Int) t) { s with heap := h', toks := tk }) :
    wpAny (model PG w) A (call (.ref 53) [.ref a, .int x tx]) Q E s := by
  refine wpAny_call ?_
  refine' enterC (K := hd.heap_1 w.params) X T hk (binds := [("a", .ref a), ("x", .int x tx), ("lo", .int 0 232), ("hi", .none), ("key", .none)]) ?ho ?hcd ?hroom ?hb ?hloc ?c1 ?c2 ?c3 ?c4 ?_
  case ho => k_is
  case hcd => k_is
  case hroom => omega
  case hb => exact bindsTo_peek (X.keeps hk) (fun S => by kernel_rfl)
  case hloc => exact locs rfl
  case c1 => exact rfl
  case c2 => exact rfl
  case c3 => exact rfl
  case c4 => decide
  intro h₁ hns hk₁
  have F : Fr s.heap s.heap.objs.size h₁ _ := ⟨hns, hk₁, Nat.le_refl _⟩
  have N : News s.heap s.heap.objs.size h₁ [] := News.nil
  have X' := X.keeps hk
  have T' := T.keeps hk
  clear hns hk₁ X T
  k_steps
  unfold Stop
  rename_i F' N'
  refine' ksw_while (fun _ => []) (fun c : Int × Int × Nat × Nat => [("lo", .int c.1 c.2.2.1), ("hi", .int c.2.1 c.2.2.2)]) (fun _ => True) ["mid"] (fun c => BInv (fun y => decide (y ≤ x)) ns c.1 c.2.1) (fun c => (c.2.1 - c.1).toNat) (0, ?z1, ?z2, ?z3) F' N' trivial ?hk (BInv.start _ _ (by have := hi.length; simpa using this)) ?turn PassesOwn.never
  case hk => kst_all
  case turn =>
    rintro ⟨lo, hi', t1, t2⟩ kU kH kTk _ hI kF kN
    simp only [kstB] at kF
    dsimp only at hI kF ⊢
    have hI' := hI
    obtain ⟨b1, b2, b3, _, _⟩ := hI'
    k_steps
    · have c1 : lo < hi' := by assumption
      have c2 : x < ns.getD ((lo + hi').fdiv 2).toNat 0 := by assumption
      rename Fr _ _ _ _ => F9
      rename News _ _ _ _ => N9
      unfold Stop
      exact ksw_end (_, _, _, _) F9 N9 (fun _ h => nomatch h) trivial (by kst_all) (by ksw_same) (hI.down c1 hst (decide_eq_false (Int.not_le.mpr c2))) (by exact meas_down c1)
    · have c1 : lo < hi' := by assumption
      have c2 : ¬ x < ns.getD ((lo + hi').fdiv 2).toNat 0 := by assumption
      rename Fr _ _ _ _ => F9
      rename News _ _ _ _ => N9
      unfold Stop
      exact ksw_end (_, _, _, _) F9 N9 (fun _ h => nomatch h) trivial (by kst_all) (by ksw_same) (hI.up c1 hst (decide_eq_true (Int.not_lt.mp c2))) (by exact meas_up c1)
    · have c1 : ¬ lo < hi' := by assumption
      dsimp only
      rw [hI.done c1]
      exact h _ _ _ kF.keep
set_option maxHeartbeats 4000000 in
theorem br_spec4 {w : World} {A : Around} {s : Shared} {p : Program} {loose : List Str} {mean : ExcName → Option Value} {mg mb : Str → Option Value} {g : Heap}
    {Q E : Value → Shared → Prop} {a : Addr} {vs : List Value} {ns : List Int} {x : Int} {tx t0 : Tok}
    (X : (hd.heap_1 w.params).In g) (T : Top p loose mean mg mb g) (hk : ∀ b o, g.get? b = some o → s.heap.get? b = some o)
    (hh : A.handled = none) (hroom : A.depth + 5 < recursionLimit)
    (hl : s.heap.IsList a vs.toArray) (hi : IntsAre vs ns) (hsz : (vs.toArray.size : Int) < 2 ^ 63) (hst : Steps (fun y => decide (y ≤ x)) ns)
    (h : ∀ t h' tk, (∀ b o, s.heap.get? b = some o → h'.get? b = some o) → Q (.int (ns.countP (fun y => decide (y ≤ x)) : Int) t) { s with heap := h', toks := tk }) :
    wpAny (model PG w) A (call (.ref 53) [.ref a, .int x tx, .int 0 t0, .none]) Q E s := by
  refine wpAny_call ?_
  refine' enterC (K := hd.heap_1 w.params) X T hk (binds := [("a", .ref a), ("x", .int x tx), ("lo", .int 0 t0), ("hi", .none), ("key", .none)]) ?ho ?hcd ?hroom ?hb ?hloc ?c1 ?c2 ?c3 ?c4 ?_
  case ho => k_is
  case hcd => k_is
  case hroom => omega
  case hb => exact bindsTo_peek (X.keeps hk) (fun S => by kernel_rfl)
  case hloc => exact locs rfl
  case c1 => exact rfl
  case c2 => exact rfl
  case c3 => exact rfl
  case c4 => decide
  intro h₁ hns hk₁
  have F : Fr s.heap s.heap.objs.size h₁ _ := ⟨hns, hk₁, Nat.le_refl _⟩
  have N : News s.heap s.heap.objs.size h₁ [] := News.nil
  have X' := X.keeps hk
  have T' := T.keeps hk
  clear hns hk₁ X T
  k_steps
  unfold Stop
  rename_i F' N'
  refine' ksw_while (fun _ => []) (fun c : Int × Int × Nat × Nat => [("lo", .int c.1 c.2.2.1), ("hi", .int c.2.1 c.2.2.2)]) (fun _ => True) ["mid"] (fun c => BInv (fun y => decide (y ≤ x)) ns c.1 c.2.1) (fun c => (c.2.1 - c.1).toNat) (0, ?z1, ?z2, ?z3) F' N' trivial ?hk (BInv.start _ _ (by have := hi.length; simpa using this)) ?turn PassesOwn.never
  case hk => kst_all
  case turn =>
    rintro ⟨lo, hi', t1, t2⟩ kU kH kTk _ hI kF kN
    simp only [kstB] at kF
    dsimp only at hI kF ⊢
    have hI' := hI
    obtain ⟨b1, b2, b3, _, _⟩ := hI'
    k_steps
    · have c1 : lo < hi' := by assumption
      have c2 : x < ns.getD ((lo + hi').fdiv 2).toNat 0 := by assumption
      rename Fr _ _ _ _ => F9
      rename News _ _ _ _ => N9
      unfold Stop
      exact ksw_end (_, _, _, _) F9 N9 (fun _ h => nomatch h) trivial (by kst_all) (by ksw_same) (hI.down c1 hst (decide_eq_false (Int.not_le.mpr c2))) (by exact meas_down c1)
    · have c1 : lo < hi' := by assumption
      have c2 : ¬ x < ns.getD ((lo + hi').fdiv 2).toNat 0 := by assumption
      rename Fr _ _ _ _ => F9
      rename News _ _ _ _ => N9
      unfold Stop
      exact ksw_end (_, _, _, _) F9 N9 (fun _ h => nomatch h) trivial (by kst_all) (by ksw_same) (hI.up c1 hst (decide_eq_true (Int.not_lt.mp c2))) (by exact meas_up c1)
    · have c1 : ¬ lo < hi' := by assumption
      dsimp only
      rw [hI.done c1]
      exact h _ _ _ kF.keep
end RS
end PartW1

section PartW2
open PySem PySem.W PyProof.Rows PySem.Calls
set_option Elab.async false
set_option maxRecDepth 100000
namespace RS

def Sub (g h : Heap) : Prop := ∀ b o, g.get? b = some o → h.get? b = some o
theorem Sub.refl (h : Heap) : Sub h h := fun _ _ e => e
theorem Sub.trans {a b c : Heap} (x : Sub a b) (y : Sub b c) : Sub a c := fun _ _ e => y _ _ (x _ _ e)

/-- what stood stands, turned or not -/
def Ex (h h' : Heap) : Prop := ∀ b o, h.get? b = some o → ∃ o', h'.get? b = some o'
theorem Ex.refl (h : Heap) : Ex h h := fun _ o e => ⟨o, e⟩
theorem Ex.trans {a b c : Heap} (x : Ex a b) (y : Ex b c) : Ex a c := fun d o e => let ⟨o', e'⟩ := x d o e; y d o' e'
theorem Sub.ex {g h : Heap} (x : Sub g h) : Ex g h := fun b o e => ⟨o, x b o e⟩

/-- what the names of a frame or a block stand for -/
structure Vw (env : Env) (h : Heap) (m : Str → Option Value) : Prop where
  ns : ∃ ml, h.Ns env.locals ml ∧ ∀ x, env.kindOf x = some .local → ml x = m x
  cell : ∀ x c, env.cells.lookup x = some c → h.IsCell c (m x)

def upd (m : Str → Option Value) (x : Str) (v : Value) : Str → Option Value := fun y => if y = x then some v else m y
theorem upd_self {m : Str → Option Value} {x : Str} {v : Value} : upd m x v x = some v := by simp [upd]
theorem upd_ne {m : Str → Option Value} {x y : Str} {v : Value} (h : y ≠ x) : upd m x v y = m y := by simp [upd, h]

theorem Vw.keeps {env : Env} {h h' : Heap} {m : Str → Option Value} (V : Vw env h m) (k : Sub h h') : Vw env h' m := by
  obtain ⟨⟨ml, a, b⟩, c⟩ := V
  exact ⟨⟨ml, a.keeps k, b⟩, fun x d e => (c x d e).keeps k⟩

section
variable {M : Model} {A : Around} {E : Value → Shared → Prop} {s : Shared} {env : Env} {m : Str → Option Value} {x : Str} {v : Value}

theorem Vw.loadL {pos : Pos} {Q : Value → Shared → Prop} (V : Vw env s.heap m) (hk : env.scope.kind = .function) (hx : env.kindOf x = some .local) (hv : m x = some v) (h : Q v s)
    (hd : (x == ("__debug__" : Str)) = false := by decide) : wpAny M A (eval (.Name x pos) env) Q E s := by
  obtain ⟨ml, hn, hm⟩ := V.ns
  exact wpAny_Name (wpAny_loadName_local hk hx hn ((hm x hx).trans hv) h) hd
theorem Vw.loadC {pos : Pos} {c : Addr} {Q : Value → Shared → Prop} (V : Vw env s.heap m) (hk : env.scope.kind = .function) (hx : env.kindOf x = some .cell) (hc : env.cells.lookup x = some c) (hv : m x = some v) (h : Q v s)
    (hd : (x == ("__debug__" : Str)) = false := by decide) : wpAny M A (eval (.Name x pos) env) Q E s :=
  wpAny_Name (wpAny_loadName_cell hk hx hc (hv ▸ V.cell x c hc) h) hd
theorem Vw.loadF {pos : Pos} {c : Addr} {Q : Value → Shared → Prop} (V : Vw env s.heap m) (hk : env.scope.kind = .function) (hx : env.kindOf x = some .free) (hc : env.cells.lookup x = some c) (hv : m x = some v) (h : Q v s)
    (hd : (x == ("__debug__" : Str)) = false := by decide) (hn : (x == ("__classdict__" : Str)) = false := by decide) : wpAny M A (eval (.Name x pos) env) Q E s :=
  wpAny_Name (wpAny_loadName_free hk hx hc (hv ▸ V.cell x c hc) h hn) hd

theorem cell_ne_ns {h : Heap} {c L : Addr} {v : Option Value} {ml : Str → Option Value} (hc : h.IsCell c v) (hn : h.Ns L ml) : c ≠ L := by
  rintro rfl
  obtain ⟨o, ho, hd⟩ := hc
  obtain ⟨o', es, ep, ho', hd', _⟩ := hn
  rw [ho] at ho'; cases ho'; rw [hd] at hd'; cases hd'

theorem Vw.storeL {Q : Unit → Shared → Prop} (V : Vw env s.heap m) (hk : env.scope.kind = .function) (hx : env.kindOf x = some .local) (hcx : env.cells.lookup x = none)
    (h : ∀ h' tk, Vw env h' (upd m x v) → (∀ b o, b ≠ env.locals → s.heap.get? b = some o → h'.get? b = some o) → Ex s.heap h' → Q () { s with heap := h', toks := tk }) : wpAny M A (storeName env x v) Q E s := by
  obtain ⟨ml, hn, hm⟩ := V.ns
  refine wpAny_storeName_local hx hn (fun h' hn' hs => h h' _ ⟨⟨_, hn', fun y hy => ?_⟩, fun y c hc => ?_⟩ (fun b o hb e => hs.extBut b o hb e) fun b o e => ?_) (by rw [hk]; rfl)
  · show (if y = x then some v else ml y) = upd m x v y
    unfold upd
    split
    · rfl
    · exact hm y hy
  · have hyx : y ≠ x := fun e => by rw [e, hcx] at hc; cases hc
    rw [upd_ne hyx]
    exact (V.cell y c hc).sameBut hs (cell_ne_ns (V.cell y c hc) hn)
  · by_cases hb : b = env.locals
    · obtain ⟨o', _, _, ho', _⟩ := hn'
      exact ⟨o', hb ▸ ho'⟩
    · exact ⟨o, hs.extBut b o hb e⟩
theorem Vw.storeC {c : Addr} {Q : Unit → Shared → Prop} (V : Vw env s.heap m) (hk : env.scope.kind = .function) (hx : env.kindOf x = some .cell) (hc : env.cells.lookup x = some c) (hi : ∀ y, env.cells.lookup y = some c → y = x)
    (h : ∀ h' tk, Vw env h' (upd m x v) → (∀ b o, b ≠ c → s.heap.get? b = some o → h'.get? b = some o) → Ex s.heap h' → Q () { s with heap := h', toks := tk }) : wpAny M A (storeName env x v) Q E s := by
  obtain ⟨ml, hn, hm⟩ := V.ns
  have hcv := V.cell x c hc
  refine wpAny_storeName_cell hk hx hc hcv fun h' hc' hs => h h' s.toks ⟨⟨ml, hn.sameBut hs (Ne.symm (cell_ne_ns hcv hn)), fun y hy => ?_⟩, fun y c' hc'' => ?_⟩ (fun b o hb e => hs.extBut b o hb e) fun b o e => ?_
  · have hyx : y ≠ x := fun e => by rw [e, hx] at hy; cases hy
    rw [upd_ne hyx]; exact hm y hy
  · by_cases hyx : y = x
    · subst hyx
      rw [hc] at hc''; cases hc''
      rw [upd_self]; exact hc'
    · rw [upd_ne hyx]
      exact (V.cell y c' hc'').sameBut hs fun e => hyx (hi y (e ▸ hc''))
  · by_cases hb : b = c
    · obtain ⟨o', ho', _⟩ := hc'
      exact ⟨o', hb ▸ ho'⟩
    · exact ⟨o, hs.extBut b o hb e⟩
end

/-- the block of a comprehension -/
def ownCells (n : Nat) (scope : Scope) : List (Str × Addr) := cellsFrom n scope.names []
theorem cellsFrom_app : ∀ (names : List (Str × NameKind)) (n : Nat) (acc : List (Str × Addr)), cellsFrom n names acc = cellsFrom n names [] ++ acc
  | [], _, _ => rfl
  | (x, k) :: r, n, acc => by
    unfold cellsFrom
    split
    · rw [cellsFrom_app r (n + 1) ((x, n) :: acc), cellsFrom_app r (n + 1) [(x, n)], List.append_assoc]; rfl
    · exact cellsFrom_app r n acc
def blockEnv (scope : Scope) (cl : List (Str × Addr)) (C : Addr) (env : Env) : Env :=
  { scope := relabel scope env, locals := C, globals := env.globals, cells := ownCells (C + 1) scope ++ cl, qual := env.qual, func := none, code := env.code, frame := env.frame, builtins := env.builtins }
def blockMap (scope : Scope) (env : Env) (m : Str → Option Value) : Str → Option Value := fun x =>
  if scope.names.lookup x = some .local ∨ scope.names.lookup x = some .cell then none else m x

theorem own_lookup : ∀ (names : List (Str × NameKind)) (n : Nat) (x : Str) (c : Addr), (cellsFrom n names []).lookup x = some c → (x, NameKind.cell) ∈ names
  | [], _, _, _, h => by cases h
  | (y, k) :: r, n, x, c, h => by
    unfold cellsFrom at h
    split at h
    · rename_i hk
      rw [cellsFrom_app] at h
      rw [List.lookup_append] at h
      cases h1 : (cellsFrom (n + 1) r []).lookup x with
      | some d => exact .tail _ (own_lookup r (n + 1) x d h1)
      | none =>
        rw [h1] at h
        simp only [Option.none_or, List.lookup_cons, List.lookup_nil] at h
        cases hb : x == y with
        | false => rw [hb] at h; cases h
        | true =>
          rw [beq_iff_eq.mp hb, beq_iff_eq.mp hk]; exact .head _
    · exact .tail _ (own_lookup r n x c h)

structure BlockOk (scope : Scope) (env : Env) (cl : List (Str × Addr)) : Prop where
  nodup : (scope.names.map (·.1)).Nodup
  clos : ∀ x c, cl.lookup x = some c → env.cells.lookup x = some c ∧ scope.names.lookup x = some .free
theorem lookup_of_mem {α : Type} : ∀ {l : List (Str × α)} {x : Str} {k : α}, (l.map (·.1)).Nodup → (x, k) ∈ l → l.lookup x = some k
  | (y, j) :: r, x, k, hn, h => by
    rw [List.map_cons, List.nodup_cons] at hn
    rw [List.lookup_cons]
    rcases List.mem_cons.mp h with e | h2
    · cases e; simp
    · have : (x == y) = false := by
        apply Bool.eq_false_iff.mpr
        intro e
        rw [beq_iff_eq] at e
        subst e
        exact hn.1 (List.mem_map.mpr ⟨_, h2, rfl⟩)
      rw [this]; exact lookup_of_mem hn.2 h2

theorem relabel_local {env : Env} : ∀ {names : List (Str × NameKind)} {x : Str},
    (names.map fun (n, k) => if (k == NameKind.free && env.scope.kind == .function && env.kindOf n == some .cell) then (n, NameKind.cell) else (n, k)).lookup x = some .local → names.lookup x = some .local
  | [], _, h => by simp at h
  | (n, k) :: r, x, h => by
    rw [List.map_cons] at h
    rw [List.lookup_cons]
    by_cases hc : (k == NameKind.free && env.scope.kind == .function && env.kindOf n == some .cell) = true
    · simp only [hc, if_true, List.lookup_cons] at h
      cases hb : x == n with
      | true => rw [hb] at h; simp at h
      | false => rw [hb] at h; exact relabel_local h
    · simp only [hc, Bool.false_eq_true, if_false, List.lookup_cons] at h
      cases hb : x == n with
      | true => rw [hb] at h; exact h
      | false => rw [hb] at h; exact relabel_local h

section
variable {M : Model} {A : Around} {E : Value → Shared → Prop} {s : Shared} {env : Env} {m : Str → Option Value}
theorem newBlock {scope : Scope} {cl : List (Str × Addr)} {Q : Env → Shared → Prop} (V : Vw env s.heap m) (ok : BlockOk scope env cl)
    (h : ∀ cenv h', { cenv with scope := relabel scope env } = blockEnv scope cl s.heap.objs.size env → cenv.locals = s.heap.objs.size → Vw (blockEnv scope cl s.heap.objs.size env) h' (blockMap scope env m) → Sub s.heap h' →
      (∀ p ∈ ownCells (s.heap.objs.size + 1) scope, s.heap.objs.size < p.2 ∧ h'.IsCell p.2 none) → ((ownCells (s.heap.objs.size + 1) scope).Pairwise fun x y => x.2 ≠ y.2) → Q cenv { s with heap := h' }) :
    wpAny M A (newFunctionEnv scope env.globals cl [] env.qual none .none (some env)) Q E s := by
  simp only [newFunctionEnv, Option.isSome_some, if_true]
  refine wpAny_bind (wpAny_alloc ?_)
  refine wpAny_bind (wpAny_layCells _ (fun name kind cells => by cases hkc : kind == NameKind.cell <;> simp [hkc]) _ _ _ _ ?_)
  have ok' := cellsFrom_ok scope.names (s.heap.push { cls := .type "dict", data := .dict #[] }) (s.heap.objs.size + 1) [] ⟨fun _ _ hm => (nomatch hm), List.Pairwise.nil⟩ (by rw [Heap.size_push]; exact Nat.le_refl _)
  rw [Heap.size_push] at ok'
  rw [show ({ s with heap := s.heap.push { cls := .type "dict", data := .dict #[] } } : Shared).heap.objs.size = s.heap.objs.size + 1 from Heap.size_push ..]
  rw [List.forIn_nil]
  refine wpAny_bind (wpAny_pure (wpAny_pure ?_))
  have up : Sub s.heap (pushCells (s.heap.push { cls := .type "dict", data := .dict #[] }) scope.names) := fun b o e => pushCells_keeps _ _ b o (Heap.get?_push_of_some _ e)
  refine h _ _ ?_ rfl ⟨⟨_, (Heap.Ns.new s.heap (.type "dict")).keeps (pushCells_keeps _ _), fun x hx => ?_⟩, fun x c hc => ?_⟩ up (fun p hp => ⟨(ok'.empty p.1 p.2 hp).2, (ok'.empty p.1 p.2 hp).1⟩) ok'.apart
  · unfold blockEnv ownCells
    rw [cellsFrom_app]
  · unfold blockMap
    rw [if_pos (.inl (relabel_local hx))]
  · have hc' : (ownCells (s.heap.objs.size + 1) scope ++ cl).lookup x = some c := hc
    rw [List.lookup_append] at hc'
    cases h1 : (ownCells (s.heap.objs.size + 1) scope).lookup x with
    | some d =>
      rw [h1] at hc'
      cases hc'
      have hm := lookup_of_mem ok.nodup (own_lookup _ _ _ _ h1)
      unfold blockMap
      rw [if_pos (.inr hm)]
      exact (ok'.empty x c (mem_of_lookup h1)).1
    | none =>
      rw [h1, Option.none_or] at hc'
      obtain ⟨h2, h3⟩ := ok.clos x c hc'
      unfold blockMap
      rw [if_neg (by rw [h3]; simp)]
      exact (V.cell x c h2).keeps up
end
end RS
end PartW2

section PartW3
open PySem PySem.W PyProof.Rows PySem.Calls
set_option Elab.async false
set_option maxRecDepth 100000
namespace RS
/-- a list that a comprehension makes, as it stands -/
def DL (h : Heap) (D : Addr) (ys : List Value) : Prop := ∃ nn, h.get? D = some (listOf ys.toArray nn)
theorem DL.at {h h' : Heap} {D : Addr} {ys : List Value} (x : DL h D ys) (k : ∀ o, h.get? D = some o → h'.get? D = some o) : DL h' D ys := let ⟨n, e⟩ := x; ⟨n, k _ e⟩
theorem DL.lst {h : Heap} {D : Addr} {ys : List Value} (x : DL h D ys) : h.IsList D ys.toArray := let ⟨n, e⟩ := x; ⟨_, e, rfl, n, rfl⟩
section
variable (prog : Program) (w : World) (A : Around) (env : Env)
def StoreAll : List (Str × Value) → (Shared → Prop) → Shared → Prop
  | [], K, s => K s
  | (x, v) :: r, K, s => wpAny (model prog w) A (storeName env x v) (fun _ s' => StoreAll r K s') (fun _ _ => False) s
end

/-- an iterator it: n items, its state St, over facts g that stay; it changes fp alone -/
structure Feed (prog : Program) (w : World) (A : Around) (g : Heap) (target : PySem.Expr) (I : Addr) (fp : List Addr) (n : Nat) (B : Nat → List (Str × Value) → Prop) (St : Nat → Heap → Prop) : Prop where
  frame : ∀ i h h', St i h → Sub g h → Sub g h' → (∀ b ∈ fp, ∀ o, h.get? b = some o → h'.get? b = some o) → St i h'
  item : ∀ i (s : Shared) (env : Env) (Q : Shared → Prop), i < n → St i s.heap → Sub g s.heap →
    (∀ bs h' tk, B i bs → St (i + 1) h' → (∀ b o, b ∉ fp → s.heap.get? b = some o → h'.get? b = some o) → Ex s.heap h' → StoreAll prog w A env bs Q { s with heap := h', toks := tk }) →
    wpAny (model prog w) A (pyNext (.ref I)) (fun r s₁ => match r with
      | none => False
      | some v => wpAny (model prog w) A (letOwnedTupleGo target (.ref I) v) (fun _ s₂ => wpAny (model prog w) A (assign target env v) (fun _ s₃ => Q s₃) (fun _ _ => False) s₂) (fun _ _ => False) s₁) (fun _ _ => False) s
  done : ∀ (s : Shared) (Q : Shared → Prop), St n s.heap → Sub g s.heap → (∀ h' tk, (∀ b o, b ∉ fp → s.heap.get? b = some o → h'.get? b = some o) → Q { s with heap := h', toks := tk }) →
    wpAny (model prog w) A (pyNext (.ref I)) (fun r s₁ => match r with
      | none => Q s₁
      | some _ => False) (fun _ _ => False) s
  self : ∀ i (s : Shared) (Q : Value → Shared → Prop) (E : Value → Shared → Prop), St i s.heap → Q (.ref I) s → wpAny (model prog w) A (pyIter (.ref I)) Q E s

section
variable {prog : Program} {w : World} {A : Around} {E : Value → Shared → Prop} {R : Result → Shared → Prop} {s : Shared}

/-- a name over what the library walks -/
theorem feedName {g : Heap} {I : Addr} {fpW wr : List Addr} {n : Nat} {P : Nat → Value → Prop} {St : Nat → Heap → Prop} (W : Walks prog w A I fpW wr n P St) (hf : ∀ b ∈ fpW, b ∈ wr ∨ ∃ o, g.get? b = some o)
    (ex : ∀ i h, St i h → ∀ b ∈ wr, ∃ o, h.get? b = some o) (x : Str) (px : Pos) :
    Feed prog w A g (.Name x px) I wr n (fun i bs => ∃ v, bs = [(x, v)] ∧ P i v) St where
  frame := fun i h h' st k k' kf => W.frame i h h' st fun b hb o e => by
    rcases hf b hb with hb | ⟨o', e'⟩
    · exact kf b hb o e
    · have := k b o' e'
      rw [this] at e; cases e
      exact k' b _ e'
  item := fun i s env Q hi st k h => by
    refine W.item i s _ _ hi st fun v h' tk hP st' kp => ?_
    dsimp only
    show wpAny _ _ (pure ()) _ _ _
    refine wpAny_pure (wpAny_assign_Name ?_)
    exact h [(x, v)] h' tk ⟨v, rfl, hP⟩ st' kp fun b o e => by
      by_cases hb : b ∈ wr
      · exact ex _ _ st' b hb
      · exact ⟨o, kp b o hb e⟩
  done := fun s Q st k h => W.done s _ _ st fun h' tk kp => h h' tk kp
  self := fun i s Q E st h => W.self i s Q E st h

def CTests (prog : Program) (w : World) (A : Around) (ifs : List PySem.Expr) (cenv : Env) (K : Bool → Shared → Prop) (s : Shared) : Prop :=
  wpAny (model prog w) A (forIn ifs true fun c r => if r = true then do let ok ← isTrue c cenv (eval c cenv); pure (ForInStep.yield ok) else pure (ForInStep.yield r)) K (fun _ _ => False) s
def CTurn (prog : Program) (w : World) (A : Around) (ifs : List PySem.Expr) (elt : PySem.Expr) (cenv : Env) (acc : Value) (Next : Shared → Prop) (s : Shared) : Prop :=
  CTests prog w A ifs cenv (fun ok s₃ => if ok = true then wpAny (model prog w) A (eval elt cenv) (fun x s₄ => wpAny (model prog w) A (call (.builtin "list.append") [acc, x]) (fun _ s₅ => Next s₅) (fun _ _ => False) s₄) (fun _ _ => False) s₃ else Next s₃) s

theorem compLoop_any {elt target iter : PySem.Expr} {ifs : List PySem.Expr} {scope : Scope} {pos : Pos} {it acc : Value} {env : Env} (I : Nat → Shared → Prop)
    (turn : ∀ n s, I n s → wpAny (model prog w) A (pyNext it) (fun r s₁ => match r with
      | none => R (.ok .next) s₁
      | some v => wpAny (model prog w) A (letOwnedTupleGo target it v) (fun _ s₁' => wpAny (model prog w) A (assign target env v) (fun _ s₂ => CTurn prog w A ifs elt env acc (fun s₅ => ∃ m, m < n ∧ I m s₅) s₂)
        (fun _ _ => False) s₁') (fun _ _ => False) s₁) (fun _ _ => False) s)
    (n : Nat) (h : I n s) :
    codeAny (model prog w) A (.compLoop (.ListComp elt [⟨target, iter, ifs, 0⟩] scope pos) 0 it acc env) R s := by
  refine codeAny_loop rfl I (fun n s hI => ?_) n h
  show wpAny _ A ((compTurn (.ListComp elt [⟨target, iter, ifs, 0⟩] scope pos) 0 it acc env).onRaise (fun x => do noteFrame x env; theTreesLotGoes x)) _ _ s
  refine wpAny_noted ?_
  rw [compTurn_list]
  refine wpAny_bind (wpAny_standAt (wpAny_bind (wpAny_mono (turn n s hI) (fun r s₁ h₁ => ?_) fun _ _ h' => h'.elim)))
  cases r with
  | none => exact wpAny_pure h₁
  | some v =>
    refine wpAny_bind (wpAny_mono h₁ (fun _ s₁' h₁ => ?_) fun _ _ h' => h'.elim)
    refine wpAny_bind (wpAny_mono h₁ (fun _ s₂ h₂ => wpAny_bind (wpAny_mono h₂ (fun ok s₃ h₃ => ?_) fun _ _ h' => h'.elim)) fun _ _ h' => h'.elim)
    cases ok with
    | false => exact wpAny_pure ⟨rfl, h₃⟩
    | true =>
      exact wpAny_bind (wpAny_bind (wpAny_mono h₃ (fun x s₄ h₄ => wpAny_bind (wpAny_mono h₄ (fun _ s₅ h₅ => wpAny_pure (wpAny_pure ⟨rfl, h₅⟩)) fun _ _ h' => h'.elim)) fun _ _ h' => h'.elim))

/-- what a turn or an element leaves: a value and a greater heap -/
structure Grew (s : Shared) (h' : Heap) (gs : Array GenState) : Prop where
  sub : Sub s.heap h'
  bare : AllBare s.gens → AllBare gs

/-- storing the turn's names in the block -/
def Stored (env : Env) (m : Str → Option Value) : List (Str × Value) → Str → Option Value
  | [] => m
  | (x, v) :: r => Stored env (upd m x v) r
/-- each target is a local or an own cell -/
def TargetOk (env : Env) (x : Str) : Prop := (env.kindOf x = some .local ∧ env.cells.lookup x = none) ∨ (env.kindOf x = some .cell ∧ ∃ c, env.cells.lookup x = some c ∧ (∀ y, env.cells.lookup y = some c → y = x))

theorem storeAll {env : Env} {fr : List Addr} {K : Shared → Prop} (hk : env.scope.kind = .function) (hL : env.locals ∈ fr) : ∀ (bs : List (Str × Value)) (m : Str → Option Value) (s : Shared), Vw env s.heap m →
    (∀ p ∈ bs, TargetOk env p.1 ∧ ∀ c, env.cells.lookup p.1 = some c → c ∈ fr) →
    (∀ h' tk, Vw env h' (Stored env m bs) → (∀ b o, b ∉ fr → s.heap.get? b = some o → h'.get? b = some o) → Ex s.heap h' → K { s with heap := h', toks := tk }) → StoreAll prog w A env bs K s
  | [], m, s, V, _, h => h s.heap s.toks V (fun _ _ _ e => e) (Ex.refl _)
  | (x, v) :: r, m, s, V, ht, h => by
    obtain ⟨h1, h2⟩ := ht (x, v) (.head _)
    have rest : ∀ h₁ tk₁, Vw env h₁ (upd m x v) → (∀ b o, b ∉ fr → s.heap.get? b = some o → h₁.get? b = some o) → Ex s.heap h₁ → StoreAll prog w A env r K { s with heap := h₁, toks := tk₁ } := fun h₁ tk₁ V₁ k₁ x₁ =>
      storeAll hk hL r (upd m x v) _ V₁ (fun p hp => ht p (.tail _ hp)) fun h' tk V' k' x' => h h' tk V' (fun b o hb e => k' b o hb (k₁ b o hb e)) (x₁.trans x')
    rcases h1 with ⟨h1, h3⟩ | ⟨h1, c, h3, h4⟩
    · exact V.storeL hk h1 h3 fun h' tk V' k' x' => rest h' tk V' (fun b o hb e => k' b o (fun q => hb (q ▸ hL)) e) x'
    · exact V.storeC hk h1 h3 h4 fun h' tk V' k' x' => rest h' tk V' (fun b o hb e => k' b o (fun q => hb (q ▸ h2 c h3)) e) x'

/-- where the turns of a comprehension's block stand -/
structure CSt (cenv : Env) (D : Addr) (fr fp : List Addr) (J : Nat → List Value → Heap → Prop) (St : Nat → Heap → Prop) (targets : List Str) (m₀ : Str → Option Value) (G₀ hh : Heap) (gs₀ : Array GenState)
    (i : Nat) (ys : List Value) (G h : Heap) (gs : Array GenState) (m : Str → Option Value) : Prop where
  j : J i ys G
  g0 : Sub G₀ G
  gh : Sub G h
  av : ∀ b, (b = D ∨ b ∈ fr ∨ b ∈ fp) → G.get? b = none
  ex : ∀ b, (b = D ∨ b ∈ fr ∨ b ∈ fp) → ∃ o, h.get? b = some o
  st : St i h
  d : DL h D ys
  len : ys.length ≤ i
  v : Vw cenv h m
  rest : ∀ x, x ∉ targets → m x = m₀ x
  old : ∀ b o, hh.get? b = some o → b ≠ D → b ∉ fr → b ∉ fp → h.get? b = some o
  bare : AllBare gs₀ → AllBare gs

/-- what an element's evaluation owes -/
def EltPost (J : Nat → List Value → Heap → Prop) (i : Nat) (ys : List Value) (G : Heap) (s₃ : Shared) (y : Value) (s₅ : Shared) : Prop :=
  ∃ h' gs tk, s₅ = { s₃ with heap := h', gens := gs, toks := tk } ∧ Grew s₃ h' gs ∧ ∀ G', Sub G G' → (∀ b o, s₃.heap.get? b = none → h'.get? b = some o → G'.get? b = some o) → J (i + 1) (ys ++ [y]) G'

/-- heap h without some addresses -/
theorem hide_sub (h : Heap) (l : List Addr) : Sub (hideAll h l) h := fun _ _ e => of_hideAll l e

/-- the turns of a comprehension's block -/
inductive CInv (cenv : Env) (D : Addr) (fr fp : List Addr) (J : Nat → List Value → Heap → Prop) (St : Nat → Heap → Prop) (targets : List Str) (m₀ : Str → Option Value) (G₀ hh : Heap) (s₂ : Shared) (n k : Nat) (s' : Shared) : Prop
  | intro (i : Nat) (ys : List Value) (G h : Heap) (gs : Array GenState) (tk : Nat) (m : Str → Option Value) (q0 : i + k = n) (q1 : s' = { s₂ with heap := h, gens := gs, toks := tk }) (C : CSt cenv D fr fp J St targets m₀ G₀ hh s₂.gens i ys G h gs m)
theorem comp_turns {elt target iter : PySem.Expr} {ifs : List PySem.Expr} {scope : Scope} {pos : Pos} {cenv : Env} {g : Heap} {I D : Addr} {fp fr : List Addr} {n : Nat} {B : Nat → List (Str × Value) → Prop} {St : Nat → Heap → Prop}
    {m₀ : Str → Option Value} {G₀ hh : Heap} {tk₀ : Nat} (Fd : Feed prog w A g target I fp n B St) (hn : n ≤ sizeLine) (J : Nat → List Value → Heap → Prop) {s₂ : Shared}
    (hk : cenv.scope.kind = .function) (hL : cenv.locals ∈ fr) (targets : List Str) (hB : ∀ i bs, B i bs → bs.map (·.1) = targets) (ht : ∀ x ∈ targets, TargetOk cenv x ∧ ∀ c, cenv.cells.lookup x = some c → c ∈ fr)
    (hDfr : D ∉ fr) (hDfp : D ∉ fp) (hfrfp : ∀ b ∈ fr, b ∉ fp) (hcap : ∀ x d, cenv.cells.lookup x = some d → d ∉ fp ∧ d ≠ D)
    (turn : ∀ i ys G (s₃ : Shared) m₁ bs, i < n → B i bs → J i ys G → Sub G₀ G → Sub G s₃.heap → (∀ x, x ∉ targets → m₁ x = m₀ x) → Vw cenv s₃.heap (Stored cenv m₁ bs) → (AllBare s₂.gens → AllBare s₃.gens) →
      CTests prog w A ifs cenv (fun ok s₄ => ∃ h' gs tk, s₄ = { s₃ with heap := h', gens := gs, toks := tk } ∧ Grew s₃ h' gs ∧
        if ok = true then wpAny (model prog w) A (eval elt cenv) (EltPost J i ys G s₃) (fun _ _ => False) s₄ else J (i + 1) ys G) s₃)
    (C₀ : CSt cenv D fr fp J St targets m₀ G₀ hh s₂.gens 0 [] G₀ hh s₂.gens m₀) (hg : Sub g G₀)
    (fin : ∀ ys G h gs m, CSt cenv D fr fp J St targets m₀ G₀ hh s₂.gens n ys G h gs m → ∀ h' tk, (∀ b o, b ∉ fp → h.get? b = some o → h'.get? b = some o) → R (.ok .next) { s₂ with heap := h', gens := gs, toks := tk }) :
    codeAny (model prog w) A (.compLoop (.ListComp elt [⟨target, iter, ifs, 0⟩] scope pos) 0 (.ref I) (.ref D) cenv) R { s₂ with heap := hh, toks := tk₀ } := by
  refine compLoop_any (CInv cenv D fr fp J St targets m₀ G₀ hh s₂ n) ?_ n ⟨0, [], G₀, hh, s₂.gens, tk₀, m₀, by lia, rfl, C₀⟩
  rintro k _ ⟨i, ys, G, h, gs, tk, m, hik, rfl, C⟩
  have hgh : Sub g h := hg.trans (C.g0.trans C.gh)
  by_cases hi : i < n
  · refine wpAny_mono (Fd.item i { s₂ with heap := h, gens := gs, toks := tk } cenv (CTurn prog w A ifs elt cenv (.ref D) (fun s₅ => ∃ m, m < k ∧ CInv cenv D fr fp J St targets m₀ G₀ hh s₂ n m s₅)) hi C.st hgh fun bs h₁ tk₁ hb st₁ k₁ ex₁ => ?_)
      (fun r s₁ q => by cases r with | none => exact q.elim | some v => exact q) fun _ _ x => x
    have gone : ∀ b o, G.get? b = some o → ¬ (b = D ∨ b ∈ fr ∨ b ∈ fp) := fun b o e q => by rw [C.av b q] at e; cases e
    have V₁ : Vw cenv h₁ m := by
      obtain ⟨⟨ml, a, b⟩, c⟩ := C.v
      refine ⟨⟨ml, a.at' fun o e => k₁ _ o (hfrfp _ hL) e, b⟩, fun x d e => ?_⟩
      obtain ⟨o, ho, hd⟩ := c x d e
      exact ⟨o, k₁ d o (hcap x d e).1 ho, hd⟩
    refine storeAll (fr := fr) hk hL bs m _ V₁ (fun p hp => ht _ (by rw [← hB i bs hb]; exact List.mem_map_of_mem hp)) fun h₂ tk₂ V₂ k₂ x₂ => ?_
    have G2 : Sub G h₂ := fun b o e => k₂ b o (fun q => gone b o e (.inr (.inl q))) (k₁ b o (fun q => gone b o e (.inr (.inr q))) (C.gh b o e))
    have st₂ : St (i + 1) h₂ := Fd.frame _ _ _ st₁ (fun b o e => k₁ b o (fun q => gone b o (C.g0 b o (hg b o e)) (.inr (.inr q))) (hgh b o e)) (hg.trans (C.g0.trans G2)) fun b hb' o e => k₂ b o (fun q => hfrfp b q hb') e
    have stored : ∀ (l : List (Str × Value)) (m : Str → Option Value), (∀ x, x ∉ targets → m x = m₀ x) → (∀ p ∈ l, p.1 ∈ targets) → ∀ x, x ∉ targets → Stored cenv m l x = m₀ x := by
      intro l
      induction l with
      | nil => intro m hm _ x hx; exact hm x hx
      | cons p r ih =>
        intro m hm hp x hx
        refine ih _ (fun y hy => ?_) (fun q hq => hp q (.tail _ hq)) x hx
        rw [upd_ne (fun e => hy (by rw [e]; exact hp p (.head _)))]
        exact hm y hy
    have hm₂ := stored bs m C.rest (fun p hp => by rw [← hB i bs hb]; exact List.mem_map_of_mem hp)
    have keep : ∀ b o, h.get? b = some o → b ∉ fr → b ∉ fp → h₂.get? b = some o := fun b o e q1 q2 => k₂ b o q1 (k₁ b o q2 e)
    have exs : ∀ b, (b = D ∨ b ∈ fr ∨ b ∈ fp) → ∃ o, h₂.get? b = some o := fun b q => let ⟨o, e⟩ := C.ex b q; (ex₁.trans x₂) b o e
    have dl : DL h₂ D ys := C.d.at fun o e => keep D o e hDfr hDfp
    have old₂ : ∀ b o, hh.get? b = some o → b ≠ D → b ∉ fr → b ∉ fp → h₂.get? b = some o := fun b o e q1 q2 q3 => keep b o (C.old b o e q1 q2 q3) q2 q3
    refine wpAny_mono (turn i ys G { s₂ with heap := h₂, gens := gs, toks := tk₂ } m bs hi hb C.j C.g0 G2 C.rest V₂ C.bare) (fun ok s₄ q => ?_) fun _ _ x => x
    obtain ⟨h₄, gs₄, tk₄, rfl, gr, q⟩ := q
    have new : ∀ h' : Heap, Sub h₂ h' → ∀ b o, b ∈ D :: (fr ++ fp) → ¬ (h₂.get? b = none ∧ h'.get? b = some o) := fun h' _ b o hb' e => by
      obtain ⟨o', e'⟩ := exs b (by simpa [or_assoc] using hb')
      rw [e'] at e; cases e.1
    have newG : ∀ h', Sub h₂ h' → Sub G (hideAll h' (D :: (fr ++ fp))) := fun h' k b o e => hideAll_get _ (k b o (G2 b o e)) fun q => gone b o e (by simpa [or_assoc] using q)
    have newN : ∀ h', Sub h₂ h' → ∀ b o, h₂.get? b = none → h'.get? b = some o → (hideAll h' (D :: (fr ++ fp))).get? b = some o := fun h' k b o e1 e2 => hideAll_get _ e2 fun q => new h' k b o q ⟨e1, e2⟩
    cases ok with
    | false =>
      simp only [Bool.false_eq_true, if_false] at q ⊢
      exact ⟨n - (i + 1), by lia, i + 1, ys, G, h₄, gs₄, tk₄, Stored cenv m bs, by lia, rfl, ⟨q, C.g0, G2.trans gr.sub, C.av, fun b hb' => let ⟨o, e⟩ := exs b hb'; ⟨o, gr.sub b o e⟩,
        Fd.frame _ _ _ st₂ (hg.trans (C.g0.trans G2)) (hg.trans (C.g0.trans (G2.trans gr.sub))) fun b _ o e => gr.sub b o e, dl.at fun o e => gr.sub D o e, Nat.le_succ_of_le C.len, V₂.keeps gr.sub, hm₂,
        fun b o e q1 q2 q3 => gr.sub b o (old₂ b o e q1 q2 q3), fun z => gr.bare (C.bare z)⟩⟩
    | true =>
      simp only [if_true] at q ⊢
      refine wpAny_mono q (fun y s₅ q => ?_) fun _ _ x => x
      obtain ⟨h₅, gs₅, tk₅, rfl, gr₅, qJ⟩ := q
      have dl₅ : DL h₅ D ys := dl.at fun o e => gr₅.sub D o e
      obtain ⟨n₅, e₅⟩ := id dl₅
      refine append_at e₅ (fun h₆ sb hl₆ => ?_) (by simp only [List.size_toArray]; exact Nat.le_trans C.len (Nat.le_trans (Nat.le_of_lt hi) hn))
      replace hl₆ : DL h₆ D (ys ++ [y]) := ⟨n₅ + 1, by rw [List.push_toArray] at hl₆; exact hl₆⟩
      have k₆ : ∀ b o, b ≠ D → h₅.get? b = some o → h₆.get? b = some o := fun b o hb' e => sb.extBut b o hb' e
      have hG' : Sub (hideAll h₅ (D :: (fr ++ fp))) h₆ := fun b o e => k₆ b o (fun q => by
        have := hideAll_none (h := h₅) (D :: (fr ++ fp)) (b := b) (by rw [q]; exact .head _)
        rw [this] at e; cases e) (of_hideAll _ e)
      have hLD : cenv.locals ≠ D := fun q => hDfr (q ▸ hL)
      exact ⟨n - (i + 1), by lia, i + 1, ys ++ [y], hideAll h₅ (D :: (fr ++ fp)), h₆, gs₅, tk₅, Stored cenv m bs, by lia, rfl,
        ⟨qJ _ (newG h₅ gr₅.sub) (newN h₅ gr₅.sub), C.g0.trans (newG h₅ gr₅.sub), hG', fun b hb' => hideAll_none _ (by simpa [or_assoc] using hb'),
          fun b hb' => by
            obtain ⟨o, e⟩ := exs b hb'
            by_cases hbD : b = D
            · obtain ⟨o', e'⟩ := id hl₆; exact ⟨_, hbD ▸ e'⟩
            · exact ⟨o, k₆ b o hbD (gr₅.sub b o e)⟩,
          Fd.frame _ _ _ st₂ (hg.trans (C.g0.trans G2)) (hg.trans ((C.g0.trans (newG h₅ gr₅.sub)).trans hG')) fun b hb' o e => k₆ b o (fun q => hDfp (q ▸ hb')) (gr₅.sub b o e),
          hl₆, by rw [List.length_append, List.length_singleton]; exact Nat.succ_le_succ C.len,
          by
            obtain ⟨⟨ml, a, b⟩, c⟩ := V₂.keeps gr₅.sub
            exact ⟨⟨ml, a.at' fun o e => k₆ _ o hLD e, b⟩, fun x d e => let ⟨o, ho, hd⟩ := c x d e; ⟨o, k₆ d o (hcap x d e).2 ho, hd⟩⟩,
          hm₂, fun b o e q1 q2 q3 => k₆ b o q1 (gr₅.sub b o (old₂ b o e q1 q2 q3)), fun z => gr₅.bare (C.bare z)⟩⟩
  · have hin : i = n := by lia
    subst hin
    refine wpAny_mono (Fd.done { s₂ with heap := h, gens := gs, toks := tk } (R (.ok .next)) C.st hgh fun h' tk' k' => fin ys G h gs m C h' tk' k') (fun r s₁ q => by cases r with | none => exact q | some v => exact q.elim) fun _ _ x => x
end
end RS
end PartW3

section PartW4
open PySem PySem.W PyProof.Rows PySem.Calls
set_option Elab.async false
set_option maxRecDepth 100000
namespace RS

theorem relabel_keep {env : Env} {k : NameKind} (hkf : k ≠ .free) : ∀ {names : List (Str × NameKind)} {x : Str}, names.lookup x = some k →
    (names.map fun (n, k) => if (k == NameKind.free && env.scope.kind == .function && env.kindOf n == some .cell) then (n, NameKind.cell) else (n, k)).lookup x = some k
  | [], _, h => by simp at h
  | (n, j) :: r, x, h => by
    rw [List.map_cons]
    rw [List.lookup_cons] at h
    cases hb : x == n with
    | true =>
      rw [hb] at h
      cases h
      have : (k == NameKind.free) = false := by simpa using hkf
      simp only [this, Bool.false_and, Bool.false_eq_true, if_false, List.lookup_cons, hb]
    | false =>
      rw [hb] at h
      have := relabel_keep hkf (env := env) h
      by_cases hc : (j == NameKind.free && env.scope.kind == .function && env.kindOf n == some .cell) = true
      · simp only [hc, if_true, List.lookup_cons, hb]; exact this
      · simp only [hc, Bool.false_eq_true, if_false, List.lookup_cons, hb]; exact this
theorem own_none {scope : Scope} {n : Nat} {x : Str} (hnd : (scope.names.map (·.1)).Nodup) (h : scope.names.lookup x ≠ some .cell) : (ownCells n scope).lookup x = none := by
  cases e : (ownCells n scope).lookup x with
  | none => rfl
  | some c => exact absurd (lookup_of_mem hnd (own_lookup _ _ _ _ e)) h
theorem own_some {scope : Scope} {n : Nat} {x : Str} (h : scope.names.lookup x = some .cell) : ∃ c, (ownCells n scope).lookup x = some c :=
  Option.isSome_iff_exists.mp (cellsFrom_some _ _ _ (.inl h))
theorem stored_congr {env : Env} {targets : List Str} {m₀ : Str → Option Value} : ∀ (bs : List (Str × Value)) (m₁ : Str → Option Value), (∀ x, x ∉ targets → m₁ x = m₀ x) → (∀ x ∈ targets, x ∈ bs.map (·.1) ∨ m₁ x = m₀ x) → Stored env m₁ bs = Stored env m₀ bs
  | [], m₁, h, h2 => by
    funext x
    by_cases hx : x ∈ targets
    · rcases h2 x hx with q | q
      · simp at q
      · exact q
    · exact h x hx
  | (y, v) :: r, m₁, h, h2 => by
    show Stored env (upd m₁ y v) r = Stored env (upd m₀ y v) r
    refine stored_congr (m₀ := upd m₀ y v) (targets := targets) r _ (fun x hx => ?_) (fun x hx => ?_)
    · unfold upd; split
      · rfl
      · exact h x hx
    · by_cases hxy : x = y
      · right; subst hxy; rw [upd_self, upd_self]
      · rcases h2 x hx with q | q
        · rw [List.map_cons] at q
          rcases List.mem_cons.mp q with e | q
          · exact absurd e hxy
          · exact .inl q
        · right; rw [upd_ne hxy, upd_ne hxy]; exact q

section
variable (prog : Program) (w : World) (A : Around) (elt target : PySem.Expr) (ifs : List PySem.Expr) (scope : Scope) (cl : List (Str × Addr)) (env : Env) (m : Str → Option Value)
/-- what the user of a comprehension says behind its iterator -/
inductive CRest (Fin : Addr → Shared → Prop) (it : Value) (s₂ : Shared) : Prop
  | intro (I : Addr) (g : Heap) (fp : List Addr) (n : Nat) (B : Nat → List (Str × Value) → Prop) (St : Nat → Heap → Prop) (targets : List Str) (J : Nat → List Value → Heap → Prop) (q0_ : it = .ref I) (q1_ : Feed prog w A g target I fp n B St) (q2_ : n ≤ sizeLine) (q3_ : St 0 s₂.heap) (q4_ : Sub g (hideAll s₂.heap fp)) (q5_ : (∀ b ∈ fp, ∃ o, s₂.heap.get? b = some o)) (q6_ : Vw env s₂.heap m) (q7_ : (env.locals ∉ fp ∧ ∀ x d, env.cells.lookup x = some d → d ∉ fp)) (q8_ : (∀ i bs, B i bs → bs.map (·.1) = targets)) (q9_ : (∀ x ∈ targets, scope.names.lookup x = some .local ∨ scope.names.lookup x = some .cell)) (q10_ : J 0 [] (hideAll s₂.heap fp)) (q11_ : (∀ C i ys G (s₃ : Shared) bs, s₂.heap.objs.size ≤ C → i < n → B i bs → J i ys G → Sub (hideAll s₂.heap fp) G → Sub G s₃.heap → Vw (blockEnv scope cl C env) s₃.heap (Stored (blockEnv scope cl C env) (blockMap scope env m) bs) → (AllBare s₂.gens → AllBare s₃.gens) → CTests prog w A ifs (blockEnv scope cl C env) (fun ok s₄ => ∃ h' gs tk, s₄ = { s₃ with heap := h', gens := gs, toks := tk } ∧ Grew s₃ h' gs ∧ if ok = true then wpAny (model prog w) A (eval elt (blockEnv scope cl C env)) (EltPost J i ys G s₃) (fun _ _ => False) s₄ else J (i + 1) ys G) s₃)) (q12_ : (∀ D ys G h' gs tk, J n ys G → Sub (hideAll s₂.heap fp) G → Sub G h' → G.get? D = none → s₂.heap.get? D = none → DL h' D ys → (∀ b o, s₂.heap.get? b = some o → b ∉ fp → h'.get? b = some o) → Vw env h' m → (AllBare s₂.gens → AllBare gs) → Fin D { s₂ with heap := h', gens := gs, toks := tk }))
end

section
variable {prog : Program} {w : World} {A : Around} {E : Value → Shared → Prop} {elt target iter : PySem.Expr} {ifs : List PySem.Expr} {scope : Scope} {cl : List (Str × Addr)} {env : Env} {m : Str → Option Value} {pos : Pos}

end
namespace Ncrestrun
abbrev V : Type := (Program) × (World) × (Around) × (Value → Shared → Prop) × (PySem.Expr) × (PySem.Expr) × (PySem.Expr) × (List PySem.Expr) × (Scope) × (List (Str × Addr)) × (Env) × (Str → Option Value) × (Pos) × (Addr → Shared → Prop) × (Option (Value → Sem Unit)) × (Value → Shared → Prop) × (Shared)
def Say (prog : Program) (w : World) (A : Around) (E : Value → Shared → Prop) (elt : PySem.Expr) (target : PySem.Expr) (iter : PySem.Expr) (ifs : List PySem.Expr) (scope : Scope) (cl : List (Str × Addr)) (env : Env) (m : Str → Option Value) (pos : Pos) (Fin : Addr → Shared → Prop) (use : Option (Value → Sem Unit)) (Q : Value → Shared → Prop) (s₂ : Shared) : Prop := ∀ (hkind : scope.kind = .function) (ok : BlockOk scope env cl) (it : Value) (h : CRest prog w A elt target ifs scope cl env m Fin it s₂) (hfin : ∀ C D (s' : Shared), s₂.heap.get? C = none → s₂.heap.get? D = none → (∃ ml, s'.heap.Ns C ml) → D ≠ C → Vw env s'.heap m → (∀ h'', Heap.SameBut C s'.heap h'' → Fin D { s' with heap := h'' }) → compPost (model prog w) A E use Q (.ref D) C (.ok .next) s'),
    wpAny (model prog w) A (newList []) (fun acc s₃ => wpAny (model prog w) A (newFunctionEnv scope env.globals cl [] env.qual none .none (some env)) (fun cenv s₄ =>
      codeAny (model prog w) A (.compStart (.ListComp elt [⟨target, iter, ifs, 0⟩] scope pos) 0 it acc { cenv with scope := relabel scope env }) (compPost (model prog w) A E use Q acc cenv.locals) s₄) E s₃) E s₂
theorem ne : Nonempty V := ⟨(default, (Classical.choice neW), {}, (fun _ _ => True), default, default, default, [], default, [], default, (fun _ => none), default, (fun _ _ => True), none, (fun _ _ => True), {})⟩
noncomputable def c : V := pick ne fun v => Say v.1 v.2.1 v.2.2.1 v.2.2.2.1 v.2.2.2.2.1 v.2.2.2.2.2.1 v.2.2.2.2.2.2.1 v.2.2.2.2.2.2.2.1 v.2.2.2.2.2.2.2.2.1 v.2.2.2.2.2.2.2.2.2.1 v.2.2.2.2.2.2.2.2.2.2.1 v.2.2.2.2.2.2.2.2.2.2.2.1 v.2.2.2.2.2.2.2.2.2.2.2.2.1 v.2.2.2.2.2.2.2.2.2.2.2.2.2.1 v.2.2.2.2.2.2.2.2.2.2.2.2.2.2.1 v.2.2.2.2.2.2.2.2.2.2.2.2.2.2.2.1 v.2.2.2.2.2.2.2.2.2.2.2.2.2.2.2.2
@[irreducible] noncomputable def prog : Program := c.1
@[irreducible] noncomputable def w : World := c.2.1
@[irreducible] noncomputable def A : Around := c.2.2.1
@[irreducible] noncomputable def E : Value → Shared → Prop := c.2.2.2.1
@[irreducible] noncomputable def elt : PySem.Expr := c.2.2.2.2.1
@[irreducible] noncomputable def target : PySem.Expr := c.2.2.2.2.2.1
@[irreducible] noncomputable def iter : PySem.Expr := c.2.2.2.2.2.2.1
@[irreducible] noncomputable def ifs : List PySem.Expr := c.2.2.2.2.2.2.2.1
@[irreducible] noncomputable def scope : Scope := c.2.2.2.2.2.2.2.2.1
@[irreducible] noncomputable def cl : List (Str × Addr) := c.2.2.2.2.2.2.2.2.2.1
@[irreducible] noncomputable def env : Env := c.2.2.2.2.2.2.2.2.2.2.1
@[irreducible] noncomputable def m : Str → Option Value := c.2.2.2.2.2.2.2.2.2.2.2.1
@[irreducible] noncomputable def pos : Pos := c.2.2.2.2.2.2.2.2.2.2.2.2.1
@[irreducible] noncomputable def Fin : Addr → Shared → Prop := c.2.2.2.2.2.2.2.2.2.2.2.2.2.1
@[irreducible] noncomputable def use : Option (Value → Sem Unit) := c.2.2.2.2.2.2.2.2.2.2.2.2.2.2.1
@[irreducible] noncomputable def Q : Value → Shared → Prop := c.2.2.2.2.2.2.2.2.2.2.2.2.2.2.2.1
@[irreducible] noncomputable def s₂ : Shared := c.2.2.2.2.2.2.2.2.2.2.2.2.2.2.2.2
theorem spec_c : Say prog w A E elt target iter ifs scope cl env m pos Fin use Q s₂ := by
  intro hkind ok it h hfin
  obtain ⟨I, g, fp, n, B, St, targets, J, rfl, Fd, hn, hst, hg, hfp, V, hcl, hB, htg, hJ, turn, fin⟩ := h
  refine wpAny_newObj_type ?_ (by size_fits)
  generalize hH2 : s₂.heap.push { cls := .type "list", dict := none, data := .seq ([] : List Value).toArray } = H2
  have hD : H2.objs.size = s₂.heap.objs.size + 1 := by rw [← hH2, Heap.size_push]
  have up2 : Sub s₂.heap H2 := fun b o e => hH2 ▸ Heap.get?_push_of_some _ e
  refine newBlock (s := { s₂ with heap := H2 }) (V.keeps up2) ok fun cenv h₁ he hL V₁ up₁ hown hap => ?_
  dsimp only at he hL V₁ up₁ hown hap ⊢
  rw [he, hL]
  have old : Sub s₂.heap h₁ := up2.trans up₁
  have fresh : ∀ a, s₂.heap.objs.size ≤ a → s₂.heap.get? a = none := fun a ha => Heap.get?_none_of_le ha
  have hDn : s₂.heap.get? s₂.heap.objs.size = none := fresh _ (Nat.le_refl _)
  have hCn : s₂.heap.get? H2.objs.size = none := fresh _ (by lia)
  have hfplt : ∀ b : Nat, b ∈ fp → b < s₂.heap.objs.size := fun b hb => let ⟨o, e⟩ := hfp b hb; Heap.lt_size e
  let fr : List Addr := H2.objs.size :: (ownCells (H2.objs.size + 1) scope).map (·.2)
  have hfr : ∀ b : Nat, b ∈ fr → H2.objs.size ≤ b := by
    intro b hb
    rcases List.mem_cons.mp hb with rfl | hb
    · exact Nat.le_refl _
    · obtain ⟨⟨x, c⟩, hx, rfl⟩ := List.mem_map.mp hb
      exact Nat.le_of_lt (hown _ hx).1
  have hDfr : s₂.heap.objs.size ∉ fr := fun q => by have := hfr _ q; lia
  have hDfp : s₂.heap.objs.size ∉ fp := fun q => Nat.lt_irrefl _ (hfplt _ q)
  have hcells : ∀ x d, (ownCells (H2.objs.size + 1) scope ++ cl).lookup x = some d → (∃ p ∈ ownCells (H2.objs.size + 1) scope, p = (x, d)) ∨ ((ownCells (H2.objs.size + 1) scope).lookup x = none ∧ cl.lookup x = some d) := by
    intro x d e
    rw [List.lookup_append] at e
    cases h1 : (ownCells (H2.objs.size + 1) scope).lookup x with
    | some c => rw [h1] at e; cases e; exact .inl ⟨_, mem_of_lookup h1, rfl⟩
    | none => rw [h1, Option.none_or] at e; exact .inr ⟨rfl, e⟩
  have hcl2 : ∀ (x : Str) (d : Nat), cl.lookup x = some d → d < s₂.heap.objs.size := fun x d e => (V.cell x d (ok.clos x d e).1).lt
  have hcap : ∀ x d, (blockEnv scope cl H2.objs.size env).cells.lookup x = some d → d ∉ fp ∧ d ≠ s₂.heap.objs.size := by
    intro x d e
    rcases hcells x d e with ⟨p, hp, rfl⟩ | ⟨_, e⟩
    · have this : @LT.lt Nat _ H2.objs.size d := (hown _ hp).1
      exact ⟨fun q => by have := hfplt _ q; lia, fun q => by have q' : @Eq Nat d s₂.heap.objs.size := q; lia⟩
    · exact ⟨hcl.2 x d (ok.clos x d e).1, Nat.ne_of_lt (hcl2 x d e)⟩
  have htarget : ∀ x ∈ targets, TargetOk (blockEnv scope cl H2.objs.size env) x ∧ ∀ c, (blockEnv scope cl H2.objs.size env).cells.lookup x = some c → c ∈ fr := by
    intro x hx
    refine ⟨?_, fun c e => ?_⟩
    · rcases htg x hx with e | e
      · left
        refine ⟨relabel_keep (by decide) e, ?_⟩
        show (ownCells (H2.objs.size + 1) scope ++ cl).lookup x = none
        rw [List.lookup_append, own_none ok.nodup (by rw [e]; decide), Option.none_or]
        cases q : cl.lookup x with
        | none => rfl
        | some d => have := (ok.clos x d q).2; rw [e] at this; cases this
      · right
        obtain ⟨c, hc⟩ := own_some (n := H2.objs.size + 1) e
        have hc' : (ownCells (H2.objs.size + 1) scope ++ cl).lookup x = some c := by rw [List.lookup_append, hc]; rfl
        refine ⟨relabel_keep (by decide) e, c, hc', fun y hy => ?_⟩
        rcases hcells y c hy with ⟨p, hp, rfl⟩ | ⟨_, hy⟩
        · exact name_of_addr hap hp (mem_of_lookup hc)
        · have h1 := hcl2 y c hy
          have h2 : @LT.lt Nat _ H2.objs.size c := (hown _ (mem_of_lookup hc)).1
          lia
    · rcases hcells x c e with ⟨p, hp, rfl⟩ | ⟨_, e⟩
      · exact .tail _ (List.mem_map.mpr ⟨_, hp, rfl⟩)
      · rcases htg x hx with q | q
        · have := (ok.clos x c e).2; rw [q] at this; cases this
        · have := (ok.clos x c e).2; rw [q] at this; cases this
  have hG : Sub (hideAll s₂.heap fp) h₁ := (hide_sub _ _).trans old
  have hDC : s₂.heap.objs.size ≠ H2.objs.size := by lia
  have hDl : DL h₁ s₂.heap.objs.size [] := ⟨0, up₁ _ _ (hH2 ▸ Heap.get?_push_size _ rfl)⟩
  have loop : ∀ tk, codeAny (model prog w) A (.compLoop (.ListComp elt [⟨target, iter, ifs, 0⟩] scope pos) 0 (.ref I) (.ref s₂.heap.objs.size) (blockEnv scope cl H2.objs.size env))
      (compPost (model prog w) A E use Q (.ref s₂.heap.objs.size) H2.objs.size) { s₂ with heap := h₁, toks := tk } := by
    intro tk
    refine comp_turns (g := g) (fp := fp) (fr := fr) Fd hn J (s₂ := s₂) hkind (.head _) targets hB htarget hDfr hDfp (fun b hb q => by have h1 := hfr _ hb; have h2 := hfplt _ q; lia) hcap
      (m₀ := blockMap scope env m) (G₀ := hideAll s₂.heap fp) (fun i ys G s₃ m₁ bs hi hb hJ' hgG hGs hm₁ V₃ bare => ?_) ⟨hJ, Sub.refl _, hG, fun b hb => ?_, fun b hb => ?_, Fd.frame _ _ _ hst (hg.trans (hide_sub _ _)) (hg.trans hG) fun b _ o e => old b o e, hDl, Nat.le_refl _, V₁, fun _ _ => rfl, fun _ _ e _ _ _ => e, id⟩ hg ?_
    · have e : Stored (blockEnv scope cl H2.objs.size env) m₁ bs = Stored (blockEnv scope cl H2.objs.size env) (blockMap scope env m) bs := stored_congr bs m₁ hm₁ fun x hx => .inl (by rw [hB i bs hb]; exact hx)
      rw [e] at V₃
      exact turn H2.objs.size i ys G s₃ bs (by lia) hi hb hJ' hgG hGs V₃ bare
    · rcases hb with rfl | hb | hb
      · exact Heap.get?_none_of_le (by rw [hideAll_size]; exact Nat.le_refl _)
      · exact Heap.get?_none_of_le (by rw [hideAll_size]; have := hfr _ hb; lia)
      · exact hideAll_none _ hb
    · rcases hb with rfl | hb | hb
      · obtain ⟨o, e⟩ := hDl; exact ⟨_, e⟩
      · rcases List.mem_cons.mp hb with rfl | hb
        · obtain ⟨ml, ⟨o, _, _, ho, _⟩, _⟩ := V₁.ns
          exact ⟨o, ho⟩
        · obtain ⟨⟨x, c⟩, hx, rfl⟩ := List.mem_map.mp hb
          obtain ⟨o, ho, _⟩ := (hown _ hx).2
          exact ⟨o, ho⟩
      · obtain ⟨o, e⟩ := hfp b hb; exact ⟨o, old b o e⟩
    · intro ys G h gs m' C h' tk' kp
      have hC' : Sub G h' := fun b o e => kp b o (fun q => by rw [C.av b (.inr (.inr q))] at e; cases e) (C.gh b o e)
      have hDG := C.av _ (.inl rfl)
      have keepV : ∀ h'' : Heap, (∀ b o, h.get? b = some o → b ∉ fp → b ≠ H2.objs.size → h''.get? b = some o) → Vw env h'' m := fun h'' kk => by
        have kk' : ∀ b o, s₂.heap.get? b = some o → b ∉ fp → h''.get? b = some o := fun b o e q => by
          have hlt : @LT.lt Nat _ b s₂.heap.objs.size := Heap.lt_size e
          exact kk b o (C.old b o (old b o e) (Nat.ne_of_lt hlt) (fun q' => by have := hfr _ q'; lia) q) q (fun q' => by rw [q', hCn] at e; cases e)
        obtain ⟨⟨ml, a, b⟩, c⟩ := V
        exact ⟨⟨ml, a.at' fun o e => kk' _ o e hcl.1, b⟩, fun x d e => let ⟨o, ho, hd⟩ := c x d e; ⟨o, kk' d o ho (hcl.2 x d e), hd⟩⟩
      refine hfin H2.objs.size s₂.heap.objs.size _ hCn hDn ?_ hDC (keepV _ fun b o e q1 _ => kp b o q1 e) fun h'' sb => ?_
      · obtain ⟨ml, a, _⟩ := C.v.ns
        exact ⟨ml, a.at' fun o e => kp _ o (fun q => by have h1 : @LT.lt Nat _ H2.objs.size s₂.heap.objs.size := hfplt _ q; lia) e⟩
      · have kk : ∀ b o, h.get? b = some o → b ∉ fp → b ≠ H2.objs.size → h''.get? b = some o := fun b o e q1 q2 => sb.extBut b o q2 (kp b o q1 e)
        refine fin _ ys G h'' gs tk' C.j C.g0 (fun b o e => sb.extBut b o (fun q => by rw [C.av b (.inr (.inl (q ▸ .head _)))] at e; cases e) (hC' b o e)) hDG hDn (C.d.at fun o e => kk _ o e hDfp hDC) (fun b o e q => ?_) (keepV _ kk) C.bare
        have hlt : @LT.lt Nat _ b s₂.heap.objs.size := Heap.lt_size e
        exact kk b o (C.old b o (old b o e) (Nat.ne_of_lt hlt) (fun q' => by have := hfr _ q'; lia) q) q (fun q' => by rw [q', hCn] at e; cases e)
  exact codeAny_compStart_list (loop _) (Fd.self 0 _ _ _ (Fd.frame _ _ _ hst (hg.trans (hide_sub _ _)) (hg.trans hG) fun b _ o e => old b o e) (loop _))
theorem all : Say c.1 c.2.1 c.2.2.1 c.2.2.2.1 c.2.2.2.2.1 c.2.2.2.2.2.1 c.2.2.2.2.2.2.1 c.2.2.2.2.2.2.2.1 c.2.2.2.2.2.2.2.2.1 c.2.2.2.2.2.2.2.2.2.1 c.2.2.2.2.2.2.2.2.2.2.1 c.2.2.2.2.2.2.2.2.2.2.2.1 c.2.2.2.2.2.2.2.2.2.2.2.2.1 c.2.2.2.2.2.2.2.2.2.2.2.2.2.1 c.2.2.2.2.2.2.2.2.2.2.2.2.2.2.1 c.2.2.2.2.2.2.2.2.2.2.2.2.2.2.2.1 c.2.2.2.2.2.2.2.2.2.2.2.2.2.2.2.2 := by
  have h := spec_c
  unfold prog w A E elt target iter ifs scope cl env m pos Fin use Q s₂ at h
  exact h
end Ncrestrun
theorem crest_run {prog : Program} {w : World} {A : Around} {E : Value → Shared → Prop} {elt : PySem.Expr} {target : PySem.Expr} {iter : PySem.Expr} {ifs : List PySem.Expr} {scope : Scope} {cl : List (Str × Addr)} {env : Env} {m : Str → Option Value} {pos : Pos} {Fin : Addr → Shared → Prop} {use : Option (Value → Sem Unit)} {Q : Value → Shared → Prop} (hkind : scope.kind = .function) (ok : BlockOk scope env cl) {it : Value} {s₂ : Shared}
    (h : CRest prog w A elt target ifs scope cl env m Fin it s₂)
    (hfin : ∀ C D (s' : Shared), s₂.heap.get? C = none → s₂.heap.get? D = none → (∃ ml, s'.heap.Ns C ml) → D ≠ C → Vw env s'.heap m → (∀ h'', Heap.SameBut C s'.heap h'' → Fin D { s' with heap := h'' }) → compPost (model prog w) A E use Q (.ref D) C (.ok .next) s') :
    wpAny (model prog w) A (newList []) (fun acc s₃ => wpAny (model prog w) A (newFunctionEnv scope env.globals cl [] env.qual none .none (some env)) (fun cenv s₄ =>
      codeAny (model prog w) A (.compStart (.ListComp elt [⟨target, iter, ifs, 0⟩] scope pos) 0 it acc { cenv with scope := relabel scope env }) (compPost (model prog w) A E use Q acc cenv.locals) s₄) E s₃) E s₂ := by
  exact of_pick Ncrestrun.ne (fun v => Ncrestrun.Say v.1 v.2.1 v.2.2.1 v.2.2.2.1 v.2.2.2.2.1 v.2.2.2.2.2.1 v.2.2.2.2.2.2.1 v.2.2.2.2.2.2.2.1 v.2.2.2.2.2.2.2.2.1 v.2.2.2.2.2.2.2.2.2.1 v.2.2.2.2.2.2.2.2.2.2.1 v.2.2.2.2.2.2.2.2.2.2.2.1 v.2.2.2.2.2.2.2.2.2.2.2.2.1 v.2.2.2.2.2.2.2.2.2.2.2.2.2.1 v.2.2.2.2.2.2.2.2.2.2.2.2.2.2.1 v.2.2.2.2.2.2.2.2.2.2.2.2.2.2.2.1 v.2.2.2.2.2.2.2.2.2.2.2.2.2.2.2.2) Ncrestrun.all (prog, w, A, E, elt, target, iter, ifs, scope, cl, env, m, pos, Fin, use, Q, s₂) hkind ok it h hfin
section
variable {prog : Program} {w : World} {A : Around} {E : Value → Shared → Prop} {elt target iter : PySem.Expr} {ifs : List PySem.Expr} {scope : Scope} {cl : List (Str × Addr)} {env : Env} {m : Str → Option Value} {pos : Pos}
/-- a list comprehension of one clause, as a value -/
theorem LC {s : Shared} {Q : Value → Shared → Prop} (hclos : closureFor scope env = pure cl) (hkind : scope.kind = .function) (ok : BlockOk scope env cl)
    (h : wpAny (model prog w) A (eval iter env) (fun xv s₁ => wpAny (model prog w) A (pyIter xv) (fun it s₂ => CRest prog w A elt target ifs scope cl env m (fun D s' => Q (.ref D) s') it s₂) E s₁) E s)
    (hs : ∀ x, foldedSetIterable iter env x = pure x := by intro _; rfl) :
    wpAny (model prog w) A (eval (.ListComp elt [⟨target, iter, ifs, 0⟩] scope pos) env) Q E s := by
  rw [eval_ListComp]
  refine wpAny_comprehension_free (use := none) rfl hs hclos hkind (fun x hx hl => lookup_of_mem ok.nodup (by rw [← hl]; exact hx)) (wpAny_mono h (fun xv s₁ h₁ => wpAny_mono h₁ (fun it s₂ h₂ => ?_) fun _ _ e => e) fun _ _ e => e)
  refine crest_run hkind ok h₂ fun C D s' _ _ hn _ _ hf => ?_
  obtain ⟨ml, hn⟩ := hn
  exact ⟨ml, hn, hf⟩

/-- a list comprehension of one clause, stored under a local name of its frame on the same line -/
theorem LCA {s : Shared} {y : Str} {py spos : Pos} {Q : Flow → Shared → Prop} (hsw : swapsWith (.ListComp elt [⟨target, iter, ifs, 0⟩] scope pos) (some (.Name y py)) spos.line env = pure true)
    (hclos : closureFor scope env = pure cl) (hkind : scope.kind = .function) (ok : BlockOk scope env cl) (hke : env.scope.kind = .function) (hy : env.kindOf y = some .local) (hcy : env.cells.lookup y = none)
    (h : wpAny (model prog w) A (eval iter env) (fun xv s₁ => wpAny (model prog w) A (pyIter xv) (fun it s₂ => CRest prog w A elt target ifs scope cl env m (fun D s' => ∀ h' tk, Vw env h' (upd m y (.ref D)) →
      (∀ b o, b ≠ env.locals → s'.heap.get? b = some o → h'.get? b = some o) → Q .next { s' with heap := h', toks := tk }) it s₂) E s₁) E s)
    (hs : ∀ x, foldedSetIterable iter env x = pure x := by intro _; rfl) :
    wpAny (model prog w) A (exec (.Assign [.Name y py] (.ListComp elt [⟨target, iter, ifs, 0⟩] scope pos) spos) env) Q E s := by
  rw [exec_Assign_Name_used _ _ _ _ hsw]
  refine wpAny_bind (wpAny_standAt (wpAny_bind ?_))
  show wpAny _ A (do let _ ← comprehension (.ListComp elt [⟨target, iter, ifs, 0⟩] scope pos) scope env _ (newList []) false (eval iter env) (some (assign (.Name y py) env))) _ _ s
  refine wpAny_bind (wpAny_mono (wpAny_comprehension_free (use := some (assign (.Name y py) env)) (Q := fun _ s' => Q .next s') rfl hs hclos hkind (fun x hx hl => lookup_of_mem ok.nodup (by rw [← hl]; exact hx)) (wpAny_mono h (fun xv s₁ h₁ => wpAny_mono h₁ (fun it s₂ h₂ => ?_) fun _ _ e => e) fun _ _ e => e))
    (fun _ s' hq => wpAny_pure (wpAny_pure hq)) fun _ _ e => e)
  refine crest_run hkind ok h₂ fun C D s' hC hD hn hDC V' hf => ?_
  obtain ⟨ml, hn⟩ := hn
  have V0 : Vw env s₂.heap m := by
    obtain ⟨_, _, _, _, _, _, _, _, _, _, _, _, _, _, V, _⟩ := h₂
    exact V
  have hLC : C ≠ env.locals := fun q => by
    obtain ⟨_, ⟨o, _, _, ho, _⟩, _⟩ := V0.ns
    rw [← q, hC] at ho; cases ho
  refine wpAny_assign_Name (V'.storeL hke hy hcy fun h' tk V₂ k₂ x₂ => ?_)
  refine ⟨ml, hn.at' fun o e => k₂ C o hLC e, fun h₃ sb => ?_⟩
  have hcell : ∀ x d, env.cells.lookup x = some d → d ≠ C := fun x d e q => by
    obtain ⟨o, ho, _⟩ := V0.cell x d e
    rw [q, hC] at ho; cases ho
  refine hf (s'.heap.hide C) ⟨Heap.hide_size _ _, fun b hb => Heap.hide_ne _ hb⟩ h₃ tk ?_ fun b o hb e => ?_
  · obtain ⟨⟨m2, a, b⟩, c⟩ := V₂
    exact ⟨⟨m2, a.sameBut sb (Ne.symm hLC), b⟩, fun x d e => (c x d e).sameBut sb (hcell x d e)⟩
  · have hbC : b ≠ C := fun q => by rw [q, Heap.hide_self] at e; cases e
    exact sb.extBut b o hbC (k₂ b o hb (Heap.of_hide e))
end
end RS
end PartW4

section PartL0
open PySem PySem.W PyProof.Rows PySem.Calls
set_option Elab.async false
set_option maxRecDepth 100000
namespace RS

theorem Vw.congr {env : Env} {h : Heap} {m m' : Str → Option Value} (V : Vw env h m) (e : ∀ x, env.kindOf x = some .local ∨ (∃ c, env.cells.lookup x = some c) → m x = m' x) : Vw env h m' := by
  obtain ⟨⟨ml, a, b⟩, c⟩ := V
  exact ⟨⟨ml, a, fun x hx => (b x hx).trans (e x (.inl hx))⟩, fun x d hd => e x (.inr ⟨d, hd⟩) ▸ c x d hd⟩

/-- a frame with its cells and what else turns (xs, as it stands), over a part G that stays -/
structure Sit (env : Env) (xs : List (Addr × Obj)) (G h : Heap) (m : Str → Option Value) : Prop where
  v : Vw env h m
  sub : Sub G h
  loc : G.get? env.locals = none
  cel : ∀ x c, env.cells.lookup x = some c → G.get? c = none
  oth : ∀ p ∈ xs, G.get? p.1 = none ∧ h.get? p.1 = some p.2
  ne : ∀ p ∈ xs, p.1 ≠ env.locals ∧ ∀ x c, env.cells.lookup x = some c → p.1 ≠ c
  apart : env.cells.Pairwise fun x y => x.2 ≠ y.2
  nc : ∀ x c, env.cells.lookup x = some c → env.locals ≠ c
  nd : (env.cells.map (·.1)).Nodup
  xn : (xs.map (·.1)).Nodup

section
variable {M : Model} {A : Around} {E : Value → Shared → Prop} {s : Shared} {env : Env} {m : Str → Option Value} {x : Str} {v : Value} {xs : List (Addr × Obj)} {G : Heap}
theorem Sit.storeL {Q : Unit → Shared → Prop} (S : Sit env xs G s.heap m) (hk : env.scope.kind = .function) (hx : env.kindOf x = some .local) (hcx : env.cells.lookup x = none)
    (h : ∀ h' tk, Sit env xs G h' (upd m x v) → Q () { s with heap := h', toks := tk }) : wpAny M A (storeName env x v) Q E s := by
  refine S.v.storeL hk hx hcx fun h' tk V k ex => h h' tk ⟨V, fun b o e => k b o (fun q => ?_) (S.sub b o e), S.loc, S.cel, fun p hp => ⟨(S.oth p hp).1, k _ _ (S.ne p hp).1 (S.oth p hp).2⟩, S.ne, S.apart, S.nc, S.nd, S.xn⟩
  rw [q, S.loc] at e; cases e
theorem Sit.storeC {c : Addr} {Q : Unit → Shared → Prop} (S : Sit env xs G s.heap m) (hk : env.scope.kind = .function) (hx : env.kindOf x = some .cell) (hc : env.cells.lookup x = some c)
    (h : ∀ h' tk, Sit env xs G h' (upd m x v) → Q () { s with heap := h', toks := tk }) : wpAny M A (storeName env x v) Q E s := by
  refine S.v.storeC hk hx hc (fun y hy => name_of_addr S.apart (mem_of_lookup hy) (mem_of_lookup hc)) fun h' tk V k ex => h h' tk ⟨V, fun b o e => k b o (fun q => ?_) (S.sub b o e), S.loc, S.cel, fun p hp => ⟨(S.oth p hp).1, k _ _ ((S.ne p hp).2 x c hc) (S.oth p hp).2⟩, S.ne, S.apart, S.nc, S.nd, S.xn⟩
  rw [q, S.cel x c hc] at e; cases e
end
def Sit.offs (env : Env) (xs : List (Addr × Obj)) : List Addr := env.locals :: (env.cells.map (·.2) ++ xs.map (·.1))
theorem Sit.off_ex {env : Env} {xs : List (Addr × Obj)} {G h : Heap} {m : Str → Option Value} (S : Sit env xs G h m) : ∀ b ∈ Sit.offs env xs, G.get? b = none ∧ ∃ o, h.get? b = some o := by
  intro b hb
  rcases List.mem_cons.mp hb with rfl | hb
  · obtain ⟨_, ⟨o, _, _, ho, _⟩, _⟩ := S.v.ns
    exact ⟨S.loc, o, ho⟩
  rcases List.mem_append.mp hb with hb | hb
  · obtain ⟨⟨x, c⟩, hx, rfl⟩ := List.mem_map.mp hb
    have e := lookup_of_mem S.nd hx
    obtain ⟨o, ho, _⟩ := S.v.cell x c e
    exact ⟨S.cel x c e, o, ho⟩
  · obtain ⟨p, hp, rfl⟩ := List.mem_map.mp hb
    exact ⟨(S.oth p hp).1, _, (S.oth p hp).2⟩
/-- the heap has grown -/
theorem Sit.grow {env : Env} {xs : List (Addr × Obj)} {G h h' : Heap} {m : Str → Option Value} (S : Sit env xs G h m) (k : Sub h h') :
    Sit env xs (hideAll h' (Sit.offs env xs)) h' m ∧ Sub G (hideAll h' (Sit.offs env xs)) ∧ ∀ b o, h.get? b = none → h'.get? b = some o → (hideAll h' (Sit.offs env xs)).get? b = some o := by
  have hx := S.off_ex
  refine ⟨⟨S.v.keeps k, fun b o e => of_hideAll _ e, hideAll_none _ (.head _), fun x c e => hideAll_none _ (.tail _ (List.mem_append.mpr (.inl (List.mem_map.mpr ⟨_, mem_of_lookup e, rfl⟩)))),
    fun p hp => ⟨hideAll_none _ (.tail _ (List.mem_append.mpr (.inr (List.mem_map_of_mem hp)))), k _ _ (S.oth p hp).2⟩, S.ne, S.apart, S.nc, S.nd, S.xn⟩, fun b o e => hideAll_get _ (k b o (S.sub b o e)) fun q => ?_, fun b o e1 e2 => hideAll_get _ e2 fun q => ?_⟩
  · rw [(hx b q).1] at e; cases e
  · obtain ⟨o', e'⟩ := (hx b q).2
    rw [e'] at e1; cases e1
/-- what else turns may be turned -/
theorem Sit.turn {env : Env} {xs ys : List (Addr × Obj)} {G h h' : Heap} {m : Str → Option Value} (S : Sit env xs G h m) (hxy : ys.map (·.1) = xs.map (·.1)) (k : ∀ b o, b ∉ xs.map (·.1) → h.get? b = some o → h'.get? b = some o) (hy : ∀ p ∈ ys, h'.get? p.1 = some p.2) :
    Sit env ys (hideAll h' (Sit.offs env xs)) h' m ∧ Sub G (hideAll h' (Sit.offs env xs)) ∧ ∀ b o, h.get? b = none → h'.get? b = some o → (hideAll h' (Sit.offs env xs)).get? b = some o := by
  have hx := S.off_ex
  have ney : ∀ p ∈ ys, p.1 ≠ env.locals ∧ ∀ x c, env.cells.lookup x = some c → p.1 ≠ c := fun p hp => by
    have : p.1 ∈ xs.map (·.1) := hxy ▸ List.mem_map_of_mem hp
    obtain ⟨q, hq, e⟩ := List.mem_map.mp this
    rw [← e]; exact S.ne q hq
  have nx : ∀ b, (b = env.locals ∨ ∃ x, env.cells.lookup x = some b) → b ∉ xs.map (·.1) := fun b hb q => by
    obtain ⟨p, hp, rfl⟩ := List.mem_map.mp q
    rcases hb with e | ⟨x, e⟩
    · exact (S.ne p hp).1 e
    · exact (S.ne p hp).2 x _ e rfl
  refine ⟨⟨?_, fun b o e => of_hideAll _ e, hideAll_none _ (.head _), fun x c e => hideAll_none _ (.tail _ (List.mem_append.mpr (.inl (List.mem_map.mpr ⟨_, mem_of_lookup e, rfl⟩)))),
    fun p hp => ⟨hideAll_none _ (.tail _ (List.mem_append.mpr (.inr (hxy ▸ List.mem_map_of_mem hp)))), hy p hp⟩, ney, S.apart, S.nc, S.nd, hxy ▸ S.xn⟩, fun b o e => hideAll_get _ (k b o (fun q => ?_) (S.sub b o e)) fun q => ?_, fun b o e1 e2 => hideAll_get _ e2 fun q => ?_⟩
  · obtain ⟨⟨ml, a, b⟩, c⟩ := S.v
    exact ⟨⟨ml, a.at' fun o e => k _ o (nx _ (.inl rfl)) e, b⟩, fun x d e => let ⟨o, ho, hd⟩ := c x d e; ⟨o, k _ o (nx _ (.inr ⟨x, e⟩)) ho, hd⟩⟩
  · obtain ⟨p, hp, rfl⟩ := List.mem_map.mp q
    rw [(S.oth p hp).1] at e; cases e
  · rw [(hx b q).1] at e; cases e
  · obtain ⟨o', e'⟩ := (hx b q).2
    rw [e'] at e1; cases e1

/-- a name of the frame is turned, all else has grown -/
theorem Sit.after {env : Env} {xs : List (Addr × Obj)} {G h h' : Heap} {m m' : Str → Option Value} (S : Sit env xs G h m) (k : ∀ b o, b ≠ env.locals → h.get? b = some o → h'.get? b = some o) (V' : Vw env h' m') :
    Sit env xs (hideAll h' (Sit.offs env xs)) h' m' ∧ Sub G (hideAll h' (Sit.offs env xs)) ∧ ∀ b o, h.get? b = none → h'.get? b = some o → (hideAll h' (Sit.offs env xs)).get? b = some o := by
  have hx := S.off_ex
  refine ⟨⟨V', fun b o e => of_hideAll _ e, hideAll_none _ (.head _), fun x c e => hideAll_none _ (.tail _ (List.mem_append.mpr (.inl (List.mem_map.mpr ⟨_, mem_of_lookup e, rfl⟩)))),
    fun p hp => ⟨hideAll_none _ (.tail _ (List.mem_append.mpr (.inr (List.mem_map_of_mem hp)))), k _ _ (S.ne p hp).1 (S.oth p hp).2⟩, S.ne, S.apart, S.nc, S.nd, S.xn⟩, fun b o e => hideAll_get _ (k b o (fun q => ?_) (S.sub b o e)) fun q => ?_, fun b o e1 e2 => hideAll_get _ e2 fun q => ?_⟩
  · rw [q, S.loc] at e; cases e
  · rw [(hx b q).1] at e; cases e
  · obtain ⟨o', e'⟩ := (hx b q).2
    rw [e'] at e1; cases e1
theorem bindL_eq (kindOf : Str → Option NameKind) : ∀ (binds : List (Str × Value)) (m : Str → Option Value) (x : Str), kindOf x = some .local → bindL kindOf binds m x = (binds.reverse.lookup x).or (m x)
  | [], m, x, _ => by simp [bindL]
  | (n, v) :: r, m, x, hx => by
    unfold bindL
    rw [bindL_eq kindOf r _ x hx, List.reverse_cons, List.lookup_append]
    cases h1 : r.reverse.lookup x with
    | some u => simp
    | none =>
      simp only [Option.none_or, List.lookup_cons, List.lookup_nil]
      by_cases hb : x = n
      · subst hb; simp [hx]
      · have : (x == n) = false := by simpa using hb
        rw [this]
        split <;> simp [hb]
theorem bindC_eq (kindOf : Str → Option NameKind) : ∀ (binds : List (Str × Value)) (m : Str → Option Value) (x : Str), kindOf x ≠ some .local → bindC kindOf binds m x = (binds.reverse.lookup x).or (m x)
  | [], m, x, _ => by simp [bindC]
  | (n, v) :: r, m, x, hx => by
    unfold bindC
    rw [bindC_eq kindOf r _ x hx, List.reverse_cons, List.lookup_append]
    cases h1 : r.reverse.lookup x with
    | some u => simp
    | none =>
      simp only [Option.none_or, List.lookup_cons, List.lookup_nil]
      by_cases hb : x = n
      · subst hb; simp [hx]
      · have : (x == n) = false := by simpa using hb
        rw [this]
        split <;> simp [hb]
theorem cells_kind {scope : Scope} {n : Nat} {x : Str} {c : Addr} (hnd : (scope.names.map (·.1)).Nodup) (h : (cellsFrom n scope.names []).lookup x = some c) : scope.names.lookup x = some .cell :=
  lookup_of_mem hnd (own_lookup _ _ _ _ h)
theorem cells_mem : ∀ (names : List (Str × NameKind)) (n : Nat) (p : Str × Addr), p ∈ cellsFrom n names [] → p.1 ∈ names.map (·.1)
  | [], _, _, h => by cases h
  | (y, k) :: r, n, p, h => by
    unfold cellsFrom at h
    rw [List.map_cons]
    split at h
    · rw [cellsFrom_app] at h
      rcases List.mem_append.mp h with q | q
      · exact .tail _ (cells_mem r _ p q)
      · rw [List.mem_singleton.mp q]; exact .head _
    · exact .tail _ (cells_mem r _ p h)
theorem cells_nodup : ∀ (names : List (Str × NameKind)) (n : Nat), (names.map (·.1)).Nodup → ((cellsFrom n names []).map (·.1)).Nodup
  | [], _, _ => List.nodup_nil
  | (y, k) :: r, n, h => by
    rw [List.map_cons, List.nodup_cons] at h
    unfold cellsFrom
    split
    · rw [cellsFrom_app, List.map_append]
      refine List.nodup_append.mpr ⟨cells_nodup r _ h.2, by simp, fun a ha b hb e => ?_⟩
      obtain ⟨p, hp, rfl⟩ := List.mem_map.mp ha
      have hb' : b = y := by simpa using hb
      exact h.1 (hb' ▸ e ▸ cells_mem r _ p hp)
    · exact cells_nodup r _ h.2
theorem enterV {prog : Program} {w : World} {A : Around} {s : Shared} {K : Frag} {p : Program} {loose : List Str} {mean : ExcName → Option Value} {mg mb : Str → Option Value} {g : Heap}
    {R : Result → Shared → Prop} {name qual : Str} {params : Arguments} {body : List Stmt} {scope : Scope} {dV kV doc pm cdv ct oc : Value} {an od : Option Addr} {osl : Array (Option Value)} {f : Addr} {args : Args} {binds : List (Str × Value)}
    (xs : List (Addr × Obj)) (hxs : ∀ p ∈ xs, s.heap.get? p.1 = some p.2) (hxn : (xs.map (·.1)).Nodup)
    (X : K.In g) (T : Top p loose mean mg mb g) (hk : ∀ b o, g.get? b = some o → s.heap.get? b = some o)
    (ho : K.lookup f = some ⟨oc, od, .func (fnX name qual params body scope [] dV kV doc pm an cdv ct), osl⟩) (hcd : codeIn K cdv qual = true) (hroom : A.depth < recursionLimit)
    (hbind : BindsTo s (fnX name qual params body scope [] dV kV doc pm an cdv ct) args binds)
    (hkind : ∀ n, ∀ x ∈ binds, scope.names.lookup x.1 = some .local ∨ (scope.names.lookup x.1 = some .cell ∧ ((cellsFrom n scope.names []).lookup x.1).isSome = true))
    (hnd : (scope.names.map (·.1)).Nodup)
    (hco : scope.isCoroutine = false) (hgen : scope.isGenerator = false) (hkd : scope.kind = .function)
    (h : ∀ h₁ tk, Sit (envOfC qual scope s.heap.objs.size f cdv) xs (hideAll s.heap (xs.map (·.1))) h₁ (fun y => binds.reverse.lookup y) → Sub s.heap h₁ →
      wpAny (model prog w) (A.deeper (envOfC qual scope s.heap.objs.size f cdv)) (execs body (envOfC qual scope s.heap.objs.size f cdv))
        (fun f s' => R (.ok (.ret (match f with | .ret v => v | _ => .none))) s') (fun _ _ => False) { s with heap := h₁, toks := tk }) :
    codeAny (model prog w) A (.call (.ref f) args) R s := by
  have XS := X.keeps hk
  refine codeAny_call_function (fd := fnX name qual params body scope [] dV kV doc pm an cdv ct) hroom (XS _ _ ho) rfl hco hgen rfl (codeRec_of XS hcd) (hbind _ _ _ _ ?_)
  refine wpAny_newFunctionEnv_cells hkd (hkind _) fun env' he s' x => ?_
  subst he
  refine ⟨(T.nolimit.keeps hk).keeps x.toInCall.keep, codeAny_func ?_⟩
  obtain ⟨h₁, tk, rfl, keep⟩ := x.done
  refine wpAny_mono (h h₁ tk ⟨⟨⟨_, x.toInCall.ns, fun y hy => ?_⟩, fun y c hc => ?_⟩, fun b o e => keep b o (of_hideAll _ e), Heap.get?_none_of_le (by rw [hideAll_size]; exact Nat.le_refl _), fun y c hc => Heap.get?_none_of_le (by rw [hideAll_size]; exact Nat.le_of_lt (x.above y c (mem_of_lookup hc))),
    fun p hp => ⟨hideAll_none _ (List.mem_map_of_mem hp), keep _ _ (hxs p hp)⟩, fun p hp => ⟨Nat.ne_of_lt (Heap.lt_size (hxs p hp)), fun y c hc => Nat.ne_of_lt (Nat.lt_trans (Heap.lt_size (hxs p hp)) (x.above y c (mem_of_lookup hc)))⟩, x.apart, fun y c hc => Nat.ne_of_lt (x.above y c (mem_of_lookup hc)), cells_nodup _ _ hnd, hxn⟩ keep) (fun _ _ z => z) fun _ _ z => z.elim
  · have := bindL_eq (newEnv scope s.heap.objs.size mainGlobals (cellsFrom (s.heap.objs.size + 1) scope.names []) (qual ++ ".<locals>.") (some f) cdv none builtinsNs).kindOf binds (fun _ => none) y hy
    simpa using this
  · have hy : scope.names.lookup y ≠ some .local := by
      rw [cells_kind hnd hc]; decide
    have := bindC_eq (newEnv scope s.heap.objs.size mainGlobals (cellsFrom (s.heap.objs.size + 1) scope.names []) (qual ++ ".<locals>.") (some f) cdv none builtinsNs).kindOf binds (fun _ => none) y hy
    have e2 := x.cell y c hc
    simp only [Option.or_none] at this
    rw [← this]
    exact e2
/-- a name of the top, or a builtin one -/
theorem nameG {prog : Program} {w : World} {A : Around} {E : Value → Shared → Prop} {s : Shared} {K : Frag} {p : Program} {loose : List Str} {mean : ExcName → Option Value} {mg mb : Str → Option Value} {g : Heap} {env : Env} {x : Str} {pos : Pos} {v : Value} {Q : Value → Shared → Prop}
    (X : K.In g) (T : Top p loose mean mg mb g) (hk : Sub g s.heap) (hg : env.globals = mainGlobals) (hkd : env.scope.kind = .function) (hx : env.kindOf x = some .globalImplicit)
    (e : nsIn K mainGlobals x = some (some v)) (h : Q v s) (hd : (x == ("__debug__" : Str)) = false := by decide) : wpAny (model prog w) A (eval (.Name x pos) env) Q E s :=
  Name_function_global hkd hx (loadGlobal_global (hg ▸ T.g.keeps hk) (mg_of X T.g e) h) hd
theorem nameB {prog : Program} {w : World} {A : Around} {E : Value → Shared → Prop} {s : Shared} {K : Frag} {p : Program} {loose : List Str} {mean : ExcName → Option Value} {mg mb : Str → Option Value} {g : Heap} {env : Env} {x : Str} {pos : Pos} {v : Value} {Q : Value → Shared → Prop}
    (X : K.In g) (T : Top p loose mean mg mb g) (hk : Sub g s.heap) (hg : env.globals = mainGlobals) (hb : env.builtins = builtinsNs) (hkd : env.scope.kind = .function) (hx : env.kindOf x = some .globalImplicit)
    (e : nsIn K mainGlobals x = some none) (hv : bootBuiltins x = some v) (hn : x ≠ "__name__") (h : Q v s) (hd : (x == ("__debug__" : Str)) = false := by decide) : wpAny (model prog w) A (eval (.Name x pos) env) Q E s :=
  Name_function_global hkd hx (loadGlobal_builtin (hg ▸ T.g.keeps hk) (mg_none_of X T.g e) (hb ▸ T.b.keeps hk) ((T.builtins x hn).trans hv) h) hd
end RS
end PartL0

section PartG1
open PySem PySem.W PyProof.Rows PySem.Calls
set_option Elab.async false
set_option maxRecDepth 100000
namespace RS
section
variable {M : Model} {A : Around} {R : GenEnd} {Y : Protocol} {n : Nat} {s₀ : Shared} {c : Code} {fs : List Frame} {s : Shared} {env : Env}
  {K : Flow → Sem Fin} {H : Value → Sem Fin} {gd : Bool → Bool} {lv : List Value → List Value}
/-- the frame below a loop that a generator's body runs -/
abbrev backFr (env : Env) (K : Flow → Sem Fin) (H : Value → Sem Fin) (gd : Bool → Bool) (lv : List Value → List Value) (c : Code) (p : Pos) : Frame :=
  .ret (fun r => ((match r with | .ok f => (.pure f : Sem Flow) | .error e => .raise e).onRaise fun (x : Value) => do
        if (← field x 1) == Value.none then unsupported "frame.own-activation:exception-without-traceback"
        setFlight x env.frame).wrap K H gd lv) none (gd false) (lv []) c p []
theorem seg_For {target iter : PySem.Expr} {body orelse : List Stmt} {pos : Pos}
    (h : wpAny M (A.over c fs) (eval iter env) (fun x s₁ => wpAny M (A.over c fs) (pyIter x) (fun it s₂ => ∀ p, Seg M A R Y n s₀ (.forLoop target it body orelse env) (M.den (.forLoop target it body orelse env))
      (backFr env K H gd lv c p :: fs) s₂) (fun _ _ => False) s₁) (fun _ _ => False) s)
    (hs : ∀ x, foldedSetIterable iter env x = pure x := by intro _; rfl) :
    Seg M A R Y n s₀ c ((exec (.For target iter body orelse pos) env).wrap K H gd lv) fs s := by
  rw [exec_For]
  refine seg_bind_wrap (wpAny_standAt ?_)
  refine seg_bind_wrap (wpAny_mono h (fun x s₁ h₁ => ?_) fun _ _ e => e.elim)
  refine seg_bind_wrap (wpAny_of_eq (hs x) ?_)
  refine seg_bind_wrap (wpAny_standAt ?_)
  refine seg_bind_wrap (wpAny_holding (wpAny_mono h₁ (fun it s₂ h₂ => ?_) fun _ _ e => e.elim))
  exact seg_call h₂
end
section
variable {prog : Program} {w : World} {A : Around} {R : GenEnd} {Y : Protocol} {n : Nat} {s₀ : Shared} {fs : List Frame} {s : Shared} {env : Env}
theorem seg_block_nil (h : Seg (model prog w) A R Y n s₀ (.block [] env) (.pure (.done .next)) fs s) :
    Seg (model prog w) A R Y n s₀ (.block [] env) ((model prog w).den (.block [] env)) fs s := h
abbrev loopK (c : Code) : Flow → Sem Fin := fun f => match f with
  | .next | .cont => .pure (.again c)
  | .brk => .pure (.done .next)
  | .ret v => .pure (.done (.ret v))
abbrev loopH (env : Env) : Value → Sem Fin := fun e => (do noteFrame e env; theTreesLotGoes e : Sem Unit).wrap (fun _ => .raise e) .raise id id
theorem seg_forLoop {target : PySem.Expr} {it : Value} {body : List Stmt}
    (h : wpAny (model prog w) (A.over (.forLoop target it body [] env) fs) (pyNext it) (fun r s₁ => match r with
      | none => Seg (model prog w) A R Y n s₀ (.block [] env) (.pure (.done .next)) fs s₁
      | some v => wpAny (model prog w) (A.over (.forLoop target it body [] env) fs) (letOwnedTupleGo target it v) (fun _ s₂ => wpAny (model prog w) (A.over (.forLoop target it body [] env) fs) (assign target env v) (fun _ s₃ =>
          Seg (model prog w) A R Y n s₀ (.forLoop target it body [] env) ((execs body env).wrap (loopK (.forLoop target it body [] env)) (loopH env) id id) fs s₃) (fun _ _ => False) s₂) (fun _ _ => False) s₁) (fun _ _ => False) s) :
    Seg (model prog w) A R Y n s₀ (.forLoop target it body [] env) ((model prog w).den (.forLoop target it body [] env)) fs s := by
  show Seg _ A R Y n s₀ _ ((forTurn target it body [] env).onRaise (fun x => do noteFrame x env; theTreesLotGoes x)) fs s
  unfold forTurn
  rw [Sem.onRaise_eq_wrap]
  refine seg_bind_wrap (wpAny_standAt ?_)
  refine seg_bind_wrap (wpAny_onRaise (wpAny_mono h (fun r s₁ h₁ => ?_) fun _ _ e => e.elim))
  cases r with
  | none => exact seg_again rfl (seg_block_nil h₁)
  | some v =>
    refine seg_bind_wrap (wpAny_mono h₁ (fun _ s₂ h₂ => ?_) fun _ _ e => e.elim)
    refine seg_bind_wrap (wpAny_mono h₂ (fun _ s₃ h₃ => ?_) fun _ _ e => e.elim)
    rw [Sem.bind_eq_wrap', Sem.wrap_wrap]
    rw [Sem.wrap_congr (execs body env) _ _ (K' := loopK (.forLoop target it body [] env)) (H' := loopH env) (fun f => by cases f <;> rfl) (fun e => by first | exact Sem.bind_eq_wrap _ _ | (show (do noteFrame e env; theTreesLotGoes e : Sem Unit).bind (fun _ => .raise e) = _; rw [Sem.bind_eq_wrap]))]
    exact h₃
end

theorem enterG {prog : Program} {w : World} {A : Around} {s : Shared} {K : Frag} {p : Program} {loose : List Str} {mean : ExcName → Option Value} {mg mb : Str → Option Value} {g : Heap}
    {R : Result → Shared → Prop} {name qual : Str} {params : Arguments} {body : List Stmt} {scope : Scope} {dV kV doc pm cdv ct oc : Value} {an od : Option Addr} {osl : Array (Option Value)} {f : Addr} {args : Args} {binds : List (Str × Value)}
    (X : K.In g) (T : Top p loose mean mg mb g) (hk : ∀ b o, g.get? b = some o → s.heap.get? b = some o)
    (ho : K.lookup f = some ⟨oc, od, .func (fnX name qual params body scope [] dV kV doc pm an cdv ct), osl⟩) (hcd : codeIn K cdv qual = true) (hroom : A.depth < recursionLimit)
    (hbind : BindsTo s (fnX name qual params body scope [] dV kV doc pm an cdv ct) args binds) (hloc : ∀ y ∈ binds, scope.names.lookup y.1 = some .local)
    (hco : scope.isCoroutine = false) (hgen : scope.isGenerator = true) (hkd : scope.kind = .function)
    (hcell : ∀ x ∈ scope.names, x.2 ≠ .cell)
    (h : ∀ h₁ : Heap, h₁.Ns s.heap.objs.size (fun y => binds.reverse.lookup y) → (∀ b o, s.heap.get? b = some o → h₁.get? b = some o) → h₁.objs.size = s.heap.objs.size + 1 →
      R (.ok (.ret (.ref h₁.objs.size))) { s with gens := s.gens.push (.fresh (.func body (envX qual scope s.heap.objs.size f cdv []))), toks := s.toks + binds.length + 1 + 1, heap := h₁.push { cls := .type "generator", data := .fields #[.int s.gens.size 0, .str name (s.toks + binds.length), .str qual (s.toks + binds.length + 1)] } }) :
    codeAny (model prog w) A (.call (.ref f) args) R s := by
  have XS := X.keeps hk
  refine codeAny_call_generator (fd := fnX name qual params body scope [] dV kV doc pm an cdv ct) (body := body) hroom (XS _ _ ho) rfl hco hgen rfl (codeRec_of XS hcd) (hbind _ _ _ _ ?_)
  refine wpAny_newFunctionEnv hcell hloc (fun h₀ hns₀ hsb₀ => ⟨(T.nolimit.keeps hk).fresh _ hsb₀, h h₀ hns₀ (fun b o e => hsb₀.extBut b o (Nat.ne_of_lt (Heap.lt_size e)) (Heap.get?_push_of_some _ e)) ?_⟩) hkd
  rw [hsb₀.1]
  exact Heap.size_push ..
end RS
end PartG1

section PartG2
open PySem PySem.W PyProof.Rows PySem.Calls
set_option Elab.async false
set_option maxRecDepth 100000
namespace RS
theorem fillG2 : (fun (_ : Params → Frag) (_ : OpenLaw) => True) hd.heap_1 PySem.Challenge.rw_rs0192_01 := by
  k_fill
  trivial
theorem seg_ind {M : Model} {A : Around} {R : GenEnd} {Y : Protocol} {c : Code} {fs : List Frame} (I : Nat → Shared → Shared → Prop)
    (step : ∀ n s₀ s, I n s₀ s → (∀ m s₀' s', m < n → I m s₀' s' → Seg M A R Y m s₀' c (M.den c) fs s') → Seg M A R Y n s₀ c (M.den c) fs s) : ∀ n s₀ s, I n s₀ s → Seg M A R Y n s₀ c (M.den c) fs s := by
  intro n
  induction n using Nat.strongRecOn with
  | ind n ih => exact fun s₀ s h => step n s₀ s h fun m s₀' s' hm h' => ih m hm s₀' s' h'

/-- what the generator tells: the sizes up to a nought or to 127, then the last one for ever, or no more -/
def gOut (pre : List Int) (inf : Bool) (j : Nat) : Option Int := if j < pre.length then pre[j]? else if inf = true then pre.getLast? else none

def GSince (C : Addr) (Z : Addr → Prop) (s₀ s : Shared) : Prop := ∃ h' tk, s = { s₀ with heap := h', toks := tk } ∧ ∀ b o, Z b → b ≠ C → s₀.heap.get? b = some o → h'.get? b = some o
theorem GSince.refl (C : Addr) (Z : Addr → Prop) (s : Shared) : GSince C Z s s := ⟨s.heap, s.toks, rfl, fun _ _ _ _ e => e⟩
theorem GSince.step {C : Addr} {Z : Addr → Prop} {s₀ s : Shared} (x : GSince C Z s₀ s) {h' : Heap} {tk : Nat} (hk : ∀ b o, Z b → b ≠ C → s.heap.get? b = some o → h'.get? b = some o) : GSince C Z s₀ { s with heap := h', toks := tk } := by
  obtain ⟨h₁, tk₁, rfl, hk₁⟩ := x
  exact ⟨h', tk, rfl, fun b o hb hc e => hk b o hb hc (hk₁ b o hb hc e)⟩
def gLots : Nat := 1000
def gProto (wr : List Addr) (C : Addr) (Z : Addr → Prop) (pre : List Int) (inf : Bool) : Protocol := fun m s₀ v s₁ kap =>
  (∃ x t, gOut pre inf (gLots - 1 - m) = some x ∧ v = .int x t) ∧ GSince C Z s₀ s₁ ∧ (m = 0 ∨ ∀ s'' : Shared, (∀ b o, b ∉ wr → s₁.heap.get? b = some o → s''.heap.get? b = some o) → (∀ b ∈ wr, ∃ o, s''.heap.get? b = some o) → kap (.send .none) s'')
def gP (C : Addr) (Z : Addr → Prop) (pre : List Int) (inf : Bool) : Nat → Shared → Shared → Prop := fun n s₀ s₁ => gOut pre inf (gLots - n) = none ∧ GSince C Z s₀ s₁
/-- a generator object that has told j of its sizes -/
def GAt (w : World) (A : Around) (a : Addr) (gi : Nat) (wr : List Addr) (C : Addr) (Z : Addr → Prop) (pre : List Int) (inf : Bool) (j : Nat) (s : Shared) : Prop :=
  s.heap.IsGen a gi ∧ ∃ gs, s.gens[gi]? = some gs ∧ ∀ s'' : Shared, (∀ b o, b ∉ wr → s.heap.get? b = some o → s''.heap.get? b = some o) → (∀ b ∈ wr, ∃ o, s''.heap.get? b = some o) →
    gs.Goes (model PG w) A.in1 (fun n s₀ r s₁ => r = .ok (.ret .none) ∧ gP C Z pre inf n s₀ s₁) (gProto wr C Z pre inf) (gLots - j) (.send .none) s''
theorem GAt.keep {w : World} {A : Around} {a : Addr} {gi : Nat} {wr : List Addr} {C : Addr} {Z : Addr → Prop} {pre : List Int} {inf : Bool} {j : Nat} {s s' : Shared} (G : GAt w A a gi wr C Z pre inf j s) (ha : a ∉ wr)
    (hk : ∀ b o, b ∉ wr → s.heap.get? b = some o → s'.heap.get? b = some o) (hg : s'.gens = s.gens) : GAt w A a gi wr C Z pre inf j s' := by
  obtain ⟨⟨o, nm, qn, ho, r⟩, gs, e, h⟩ := G
  exact ⟨⟨o, nm, qn, hk _ _ ha ho, r⟩, gs, by rw [hg]; exact e, fun s'' k => h s'' fun b o hb e => k b o hb (hk b o hb e)⟩

theorem gens_bare {gens : Array GenState} {g : Nat} {x y : GenState} (h : AllBare gens) (hy : y.bare = true) (s s₁ : Shared) (hs : s.gens = gens) (h1 : s₁.gens = (s.setGen g x).gens) : AllBare (s₁.setGen g y).gens := by
  intro z hz
  obtain ⟨i, hi, rfl⟩ := Array.mem_iff_getElem.mp hz
  have hz' : (s₁.setGen g y).gens[i]? = some (s₁.setGen g y).gens[i] := Array.getElem?_eq_getElem hi
  by_cases e : i = g
  · subst e
    have hlt : i < s₁.gens.size := by simpa [Shared.setGen] using hi
    have : (s₁.setGen i y).gens[i]? = some y := by simp [Shared.setGen, hlt]
    rw [← Option.some.inj (this.symm.trans hz')]
    exact hy
  · have e1 := (GenOnly.setGen s₁ g y).2 i e
    have e2 := (GenOnly.setGen s g x).2 i e
    rw [e1, h1, e2, hs] at hz'
    obtain ⟨hi', e'⟩ := Array.getElem?_eq_some_iff.mp hz'
    rw [← e']
    exact h _ (Array.getElem_mem hi')

theorem gen_nextQ {prog : Program} {w : World} {A : Around} {E : Value → Shared → Prop} {s : Shared} {a : Addr} {g n : Nat} {gs : GenState} {P : Nat → Shared → Shared → Prop} {Y : Protocol} {Q : Option Value → Shared → Prop} (hh : A.handled = none)
    (hl : s.heap.NoLimit) (hroom : A.depth < recursionLimit)
    (hg : s.heap.IsGen a g) (hgs : s.gens[g]? = some gs)
    (hgo : gs.Goes (model prog w) A.in1 (fun n s₀ r s₁ => r = .ok (.ret .none) ∧ P n s₀ s₁) Y n (.send .none) (s.setGen g .running))
    (hY : ∀ v s₁ gs', gs'.bare = true → Y (n - 1) (s.setGen g .running) v s₁ (fun r' s'' => match n with
        | 0 => False
        | m + 1 => gs'.Goes (model prog w) A.in1 (fun n s₀ r s₁ => r = .ok (.ret .none) ∧ P n s₀ s₁) Y m r' s'') → Q (some v) (s₁.setGen g gs'))
    (hP : ∀ s₁, P n (s.setGen g .running) s₁ → ∀ h', (∀ b o, s₁.heap.get? b = some o → h'.get? b = some o) → Q none { s₁.setGen g .finished with heap := h' }) :
    wpAny (model prog w) A (pyNext (.ref a)) Q E s := by
  unfold pyNext
  refine wpAny_bind (wpAny_attempt (wpAny_callSpecial?_slot (name := Str.ofString "__next__") hg.typeIs slot_gen_next
    (wpAny_call_entry slot_gen_next hg.typeIs entry_gen_next ?_ (args_gen_next _))))
  show wpAny _ A.in1 (Builtin.Generator.genWake (.ref a) (.send .none)) _ _ s
  unfold Builtin.Generator.genWake
  refine wpAny_bind (wpAny_holding (wpAny_genNumber hg (wpAny_bind (wpAny_genState hgs ?_))))
  cases gs with
  | running => exact hgo.elim
  | finished => exact hgo.elim
  | _ =>
    refine wpAny_bind (wpAny_roomToWake hl hroom ?_)
    show wpAny _ A.in1 (.resume g (.send .none) [] _) _ _ s
    refine wpAny_resumeQ hgs hgo (fun x s₁ hx => ?_) (fun v s₁ gs' hb hv => ?_)
    · obtain ⟨rfl, hp⟩ := hx
      show wpAny _ A.in1 (newExc (.type "StopIteration") [] >>= _) _ _ _
      refine wpAny_bind ?_
      simp only [newExc, newTuple]
      refine wpAny_bind (wpAny_newObj_type ?_ (by size_fits))
      refine wpAny_bind (m := firstArgMember _ _) (wpAny_of_eq (a := Value.none) (by first | rfl | (simp only [firstArgMember]; rfl)) ?_)
      refine wpAny_newObj_type ?_ (by size_fits)
      simp only [raiseNew]
      refine wpAny_bind (wpAny_bind (wpAny_handled ?_))
      first | rw [show A.in1.handled = none from hh] | rw [hh]
      refine wpAny_throw ?_
      refine wpAny_bind (wpAny_isInstance (T := "StopIteration") (b := true) ⟨_, Heap.get?_push_size _ rfl, rfl⟩ isSubtype_stop ?_)
      exact wpAny_pure (hP s₁ hp _ fun b o hb => Heap.get?_push_of_some _ (Heap.get?_push_of_some _ hb))
    · exact wpAny_pure ⟨v, rfl, wpAny_pure (hY v s₁ gs' hb hv)⟩
namespace NgNext
abbrev V : Type := (World) × (Around) × (Value → Shared → Prop) × (Shared) × (Addr) × (Nat) × (List Addr) × (Addr) × (Addr → Prop) × (List Int) × (Bool) × (Nat) × (Option Value → Shared → Prop)
def Say (w : World) (A : Around) (E : Value → Shared → Prop) (s : Shared) (a : Addr) (gi : Nat) (wr : List Addr) (C : Addr) (Z : Addr → Prop) (pre : List Int) (inf : Bool) (j : Nat) (Q : Option Value → Shared → Prop) : Prop := ∀ (hh : A.handled = none) (hl : s.heap.NoLimit) (hroom : A.depth < recursionLimit) (hj : j + 1 < gLots) (haZ : Z a) (haC : a ≠ C) (G : GAt w A a gi wr C Z pre inf j s) (hex : ∀ b ∈ wr, ∃ o, s.heap.get? b = some o) (hsome : ∀ x t h' tk gs, gOut pre inf j = some x → GAt w A a gi wr C Z pre inf (j + 1) { s with heap := h', toks := tk, gens := gs } → (∀ b o, Z b → b ≠ C → s.heap.get? b = some o → h'.get? b = some o) → (AllBare s.gens → AllBare gs) → Q (some (.int x t)) { s with heap := h', toks := tk, gens := gs }) (hnone : ∀ h' tk gs, gOut pre inf j = none → (∀ b o, Z b → b ≠ C → s.heap.get? b = some o → h'.get? b = some o) → (AllBare s.gens → AllBare gs) → Q none { s with heap := h', toks := tk, gens := gs }),
    wpAny (model PG w) A (pyNext (.ref a)) Q E s
theorem ne : Nonempty V := ⟨((Classical.choice neW), {}, (fun _ _ => True), {}, 0, 0, [], 0, (fun _ => True), [], default, 0, (fun _ _ => True))⟩
noncomputable def c : V := pick ne fun v => Say v.1 v.2.1 v.2.2.1 v.2.2.2.1 v.2.2.2.2.1 v.2.2.2.2.2.1 v.2.2.2.2.2.2.1 v.2.2.2.2.2.2.2.1 v.2.2.2.2.2.2.2.2.1 v.2.2.2.2.2.2.2.2.2.1 v.2.2.2.2.2.2.2.2.2.2.1 v.2.2.2.2.2.2.2.2.2.2.2.1 v.2.2.2.2.2.2.2.2.2.2.2.2
@[irreducible] noncomputable def w : World := c.1
@[irreducible] noncomputable def A : Around := c.2.1
@[irreducible] noncomputable def E : Value → Shared → Prop := c.2.2.1
@[irreducible] noncomputable def s : Shared := c.2.2.2.1
@[irreducible] noncomputable def a : Addr := c.2.2.2.2.1
@[irreducible] noncomputable def gi : Nat := c.2.2.2.2.2.1
@[irreducible] noncomputable def wr : List Addr := c.2.2.2.2.2.2.1
@[irreducible] noncomputable def C : Addr := c.2.2.2.2.2.2.2.1
@[irreducible] noncomputable def Z : Addr → Prop := c.2.2.2.2.2.2.2.2.1
@[irreducible] noncomputable def pre : List Int := c.2.2.2.2.2.2.2.2.2.1
@[irreducible] noncomputable def inf : Bool := c.2.2.2.2.2.2.2.2.2.2.1
@[irreducible] noncomputable def j : Nat := c.2.2.2.2.2.2.2.2.2.2.2.1
@[irreducible] noncomputable def Q : Option Value → Shared → Prop := c.2.2.2.2.2.2.2.2.2.2.2.2
theorem spec_c : Say w A E s a gi wr C Z pre inf j Q := by
  intro hh hl hroom hj haZ haC G hex hsome hnone
  obtain ⟨hg, gs, hgs, hgo⟩ := G
  refine gen_nextQ hh hl hroom hg hgs (P := gP C Z pre inf) (hgo _ (fun _ _ _ e => e) hex) (fun v s₁ gs' hb hv => ?_) fun s₁ hp h' hk => ?_
  · obtain ⟨⟨x, t, e, rfl⟩, ⟨h₁, tk₁, rfl, hk₁⟩, hkap⟩ := hv
    have e1 : gLots - 1 - (gLots - j - 1) = j := by omega
    rw [e1] at e
    refine hsome x t h₁ tk₁ _ e ⟨?_, gs', setGen_self (gs := .running) (setGen_self hgs), fun s'' k kx => ?_⟩ hk₁ fun hb' => gens_bare (gens := s.gens) hb' hb s _ rfl rfl
    · obtain ⟨o, nm, qn, ho, r⟩ := hg
      exact ⟨o, nm, qn, hk₁ a o haZ haC ho, r⟩
    · rcases hkap with h0 | hkap
      · omega
      · have := hkap s'' k kx
        obtain ⟨m, hm⟩ : ∃ m, gLots - j = m + 1 := ⟨gLots - j - 1, by omega⟩
        rw [hm] at this
        have e2 : gLots - (j + 1) = m := by omega
        rw [e2]
        exact this
  · obtain ⟨e, h₁, tk₁, rfl, hk₁⟩ := hp
    have e1 : gLots - (gLots - j) = j := by omega
    rw [e1] at e
    exact hnone h' tk₁ _ e (fun b o hb hc q => hk b o (hk₁ b o hb hc q)) fun hb' => gens_bare (gens := s.gens) hb' rfl s _ rfl rfl
theorem all : Say c.1 c.2.1 c.2.2.1 c.2.2.2.1 c.2.2.2.2.1 c.2.2.2.2.2.1 c.2.2.2.2.2.2.1 c.2.2.2.2.2.2.2.1 c.2.2.2.2.2.2.2.2.1 c.2.2.2.2.2.2.2.2.2.1 c.2.2.2.2.2.2.2.2.2.2.1 c.2.2.2.2.2.2.2.2.2.2.2.1 c.2.2.2.2.2.2.2.2.2.2.2.2 := by
  have h := spec_c
  unfold w A E s a gi wr C Z pre inf j Q at h
  exact h
end NgNext
theorem gNext {w : World} {A : Around} {E : Value → Shared → Prop} {s : Shared} {a : Addr} {gi : Nat} {wr : List Addr} {C : Addr} {Z : Addr → Prop} {pre : List Int} {inf : Bool} {j : Nat} {Q : Option Value → Shared → Prop}
    (hh : A.handled = none) (hl : s.heap.NoLimit) (hroom : A.depth < recursionLimit) (hj : j + 1 < gLots) (haZ : Z a) (haC : a ≠ C) (G : GAt w A a gi wr C Z pre inf j s) (hex : ∀ b ∈ wr, ∃ o, s.heap.get? b = some o)
    (hsome : ∀ x t h' tk gs, gOut pre inf j = some x → GAt w A a gi wr C Z pre inf (j + 1) { s with heap := h', toks := tk, gens := gs } → (∀ b o, Z b → b ≠ C → s.heap.get? b = some o → h'.get? b = some o) → (AllBare s.gens → AllBare gs) → Q (some (.int x t)) { s with heap := h', toks := tk, gens := gs })
    (hnone : ∀ h' tk gs, gOut pre inf j = none → (∀ b o, Z b → b ≠ C → s.heap.get? b = some o → h'.get? b = some o) → (AllBare s.gens → AllBare gs) → Q none { s with heap := h', toks := tk, gens := gs }) :
    wpAny (model PG w) A (pyNext (.ref a)) Q E s := by
  exact of_pick NgNext.ne (fun v => NgNext.Say v.1 v.2.1 v.2.2.1 v.2.2.2.1 v.2.2.2.2.1 v.2.2.2.2.2.1 v.2.2.2.2.2.2.1 v.2.2.2.2.2.2.2.1 v.2.2.2.2.2.2.2.2.1 v.2.2.2.2.2.2.2.2.2.1 v.2.2.2.2.2.2.2.2.2.2.1 v.2.2.2.2.2.2.2.2.2.2.2.1 v.2.2.2.2.2.2.2.2.2.2.2.2) NgNext.all (w, A, E, s, a, gi, wr, C, Z, pre, inf, j, Q) hh hl hroom hj haZ haC G hex hsome hnone
end RS
end PartG2

theorem RS.forgetG3 {prog : PySem.Program} {w : PySem.World} {A : PySem.Around} {env : PySem.Env} {Q : PySem.Flow → PySem.Shared → Prop} {E : PySem.Value → PySem.Shared → Prop} {s : PySem.Shared}
    (h : PySem.wpAny (PySem.model prog w) A (PySem.execs [] env) Q E s) : PySem.wpAny (PySem.model prog w) A (PySem.execs [] env) Q E s := by
  first | (walk1; fail "no") | skip
  w_top off
  exact h

section PartG3
open PySem PySem.W PyProof.Rows PySem.Calls
set_option Elab.async false
set_option maxRecDepth 100000
namespace RS
theorem fillG3 : (fun (_ : Params → Frag) (_ : OpenLaw) => True) hd.heap_1 PySem.Challenge.rw_rs0192_01 := by
  k_fill
  trivial
theorem wpAny_none {M : Model} {A : Around} {α : Type} {m : Sem α} {Q : α → Shared → Prop} {E : Value → Shared → Prop} {s : Shared} (h : A.handled = none) (k : ∀ d f g u, wpAny M ⟨none, d, f, g, u⟩ m Q E s) : wpAny M A m Q E s := by
  cases A
  dsimp only at h
  subst h
  exact k _ _ _ _
theorem seg_If {M : Model} {A : Around} {R : GenEnd} {Y : Protocol} {n : Nat} {s₀ : Shared} {c : Code} {fs : List Frame} {s : Shared} {env : Env} {K : Flow → Sem Fin} {H : Value → Sem Fin} {gd : Bool → Bool} {lv : List Value → List Value}
    {test : PySem.Expr} {body orelse : List Stmt} {pos : Pos}
    (h : wpAny M (A.over c fs) (isTrue test env (eval test env)) (fun b s' => if b = true then Seg M A R Y n s₀ c ((execs body env).wrap K H gd lv) fs s' else Seg M A R Y n s₀ c ((execs orelse env).wrap K H gd lv) fs s') (fun _ _ => False) s) :
    Seg M A R Y n s₀ c ((exec (.If test body orelse pos) env).wrap K H gd lv) fs s := by
  rw [exec_If]
  refine seg_bind_wrap (wpAny_standAt ?_)
  refine seg_bind_wrap (wpAny_mono h (fun b s' q => ?_) fun _ _ e => e.elim)
  cases b with
  | true => exact q
  | false => exact q
local macro_rules | `(tactic| walk_at "pyIter ref") => `(tactic| (refine Stop.of ?_))
theorem list_iter {prog : Program} {w : World} {A : Around} {E : Value → Shared → Prop} {s : Shared} {l : Addr} {items : Array Value} {Q : Value → Shared → Prop} (hl : s.heap.IsList l items)
    (h : ∀ h', h'.IsListIter s.heap.objs.size l 0 → (∀ b o, s.heap.get? b = some o → h'.get? b = some o) → Q (.ref s.heap.objs.size) { s with heap := h' }) : wpAny (model prog w) A (pyIter (.ref l)) Q E s :=
  wpAny_pyIter_list hl (h _ ⟨_, Heap.get?_push_size _ rfl, rfl, rfl⟩ fun b o e => Heap.get?_push_of_some _ e)
theorem Fr.congr {h₀ h : Heap} {L : Addr} {m m' : Str → Option Value} (F : Fr h₀ L h m) (e : ∀ y, m y = m' y) : Fr h₀ L h m' := by
  have : m = m' := funext e
  rw [← this]; exact F
def giMap (l : Addr) (last : Value) (u : Option Value) : Str → Option Value := fun y => if y = Str.ofString "last_interval" then some last else if y = Str.ofString "interval" then u else if y = Str.ofString "grouping" then some (.ref l) else none
/-- where the generator's loop stands ahead of item i -/
inductive giInv (B : Heap) (C I l : Addr) (vs : List Value) (nn : Nat) (Z : Addr → Prop) (pre : List Int) (e1 e2 a : Addr) (og : Obj) (n : Nat) (s₀ s : Shared) : Prop
  | intro (i : Nat) (last : Value) (u : Option Value) (o1 : Obj) (o2 : Obj) (oi : Obj) (q0_ : n + i = gLots) (q1_ : i ≤ pre.length) (q2_ : (∀ j, i = j + 1 → ∃ x t, last = .int x t ∧ pre[j]? = some x)) (q3_ : Fr B C s.heap (giMap l last u)) (q4_ : News B C s.heap [(I, oi), (e1, o1), (e2, o2), (a, og)]) (q5_ : s.heap.IsListIter I l i) (q6_ : s.heap.get? l = some (listOf vs.toArray nn)) (q7_ : GSince C Z s₀ s)
theorem since_step {B h h' : Heap} {C : Addr} {m m' : Str → Option Value} {L3 : List (Addr × Obj)} {Z : Addr → Prop} (F : Fr B C h m) (F' : Fr B C h' m') (N : News B C h L3) (N' : News B C h' L3) (hZ : ∀ b, Z b → (∃ o, B.get? b = some o) ∨ b ∈ L3.map (·.1)) :
    ∀ b o, Z b → b ≠ C → h.get? b = some o → h'.get? b = some o := by
  intro b o hb _ e
  rcases hZ b hb with ⟨o', e'⟩ | q
  · rw [F.keep b o' e'] at e
    cases e
    exact F'.keep b _ e'
  · obtain ⟨⟨b', o'⟩, hm, rfl⟩ := List.mem_map.mp q
    have e2 := N.get hm
    dsimp only at e
    rw [e2] at e
    cases e
    exact N'.get hm
theorem Fr.but {B h h' : Heap} {C I : Addr} {m : Str → Option Value} (F : Fr B C h m) (hC : C ≠ I) (hB : B.get? I = none) (k : ∀ b o, b ≠ I → h.get? b = some o → h'.get? b = some o) : Fr B C h' m :=
  ⟨F.ns.at' fun o e => k _ o hC e, fun b o e => k b o (fun q => by rw [q, hB] at e; cases e) (F.keep b o e), F.above⟩
theorem News.but {B h h' : Heap} {C I : Addr} {L : List (Addr × Obj)} (N : News B C h L) (hI : ∀ p ∈ L, p.1 ≠ I) (k : ∀ b o, b ≠ I → h.get? b = some o → h'.get? b = some o) : News B C h' L :=
  fun p hp => ⟨k _ _ (hI p hp) (N p hp).1, (N p hp).2⟩
theorem ints_at {vs : List Value} {ns : List Int} (h : IntsAre vs ns) {i : Nat} {v : Value} (e : vs[i]? = some v) : ∃ x t, v = .int x t ∧ ns[i]? = some x := by
  induction h generalizing i with
  | nil => simp at e
  | cons x t _ ih =>
    cases i with
    | zero => simp at e; exact ⟨x, t, e.symm, rfl⟩
    | succ i => simp at e; exact ih e
/-- where the generator stands in its endless loop -/
inductive whInv (B : Heap) (C l : Addr) (Z : Addr → Prop) (k : Nat) (y : Int) (ty : Tok) (e1 e2 a : Addr) (og : Obj) (n : Nat) (s₀ s : Shared) : Prop
  | intro (q0_ : 1 ≤ n) (q1_ : n + k ≤ gLots) (u : Option Value) (o1 : Obj) (o2 : Obj) (q2_ : Fr B C s.heap (giMap l (.int y ty) u)) (q3_ : News B C s.heap [(e1, o1), (e2, o2), (a, og)]) (q4_ : GSince C Z s₀ s)
namespace Gi
abbrev V : Type := (World) × (Around) × (Shared) × (Program) × (List Str) × (ExcName → Option Value) × (Str → Option Value) × (Str → Option Value) × (Heap) × (Value → Shared → Prop) × (Value → Shared → Prop) × (Addr) × (List Value) × (Nat) × (List Int) × (List Int) × (Bool) × (Addr) × (Addr)
def Stmt (w : World) (A : Around) (s : Shared) (p : Program) (loose : List Str) (mean : ExcName → Option Value) (mg : Str → Option Value) (mb : Str → Option Value) (g : Heap) (Q : Value → Shared → Prop) (E : Value → Shared → Prop) (l : Addr) (vs : List Value) (nn : Nat) (pre : List Int) (post : List Int) (inf : Bool) (e1 : Addr) (e2 : Addr) : Prop := ∀ (X : (hd.heap_1 w.params).In g) (T : Top p loose mean mg mb g) (hk : ∀ b o, g.get? b = some o → s.heap.get? b = some o) (hh : A.handled = none) (hroom : A.depth + 5 < recursionLimit) (hl : s.heap.get? l = some (listOf vs.toArray nn)) (hi : IntsAre vs (pre ++ post)) (hpre : ∀ x ∈ pre, x ≠ 127 ∧ x ≠ 0) (hlen : pre.length < 900) (hinf : inf = true → pre ≠ [] ∧ ∃ r, post = 0 :: r) (hfin : inf = false → post = [] ∨ ∃ r, post = 127 :: r) (hwr : ∀ b ∈ [e1, e2], ∃ o, s.heap.get? b = some o) (hlw : l ∉ [e1, e2]) (hgw : ∀ b ∈ [e1, e2], g.get? b = none) (hq : ∀ a gi h' tk gs C Z, GAt w A a gi [e1, e2] C Z pre inf 0 { s with heap := h', toks := tk, gens := gs } → (∀ b o, s.heap.get? b = some o → h'.get? b = some o) → s.heap.get? C = none → s.heap.get? a = none → a ≠ C → Z a → (∀ b o, s.heap.get? b = some o → Z b) → (AllBare s.gens → AllBare gs) → Q (.ref a) { s with heap := h', toks := tk, gens := gs }),
    wpAny (model PG w) A (call (.ref 28) [.ref l]) Q E s
theorem ne : Nonempty V := ⟨((Classical.choice neW), {}, {}, default, [], (fun _ => none), (fun _ => none), (fun _ => none), {}, (fun _ _ => True), (fun _ _ => True), 0, [], 0, [], [], default, 0, 0)⟩
noncomputable def c : V := pick ne fun v => Stmt v.1 v.2.1 v.2.2.1 v.2.2.2.1 v.2.2.2.2.1 v.2.2.2.2.2.1 v.2.2.2.2.2.2.1 v.2.2.2.2.2.2.2.1 v.2.2.2.2.2.2.2.2.1 v.2.2.2.2.2.2.2.2.2.1 v.2.2.2.2.2.2.2.2.2.2.1 v.2.2.2.2.2.2.2.2.2.2.2.1 v.2.2.2.2.2.2.2.2.2.2.2.2.1 v.2.2.2.2.2.2.2.2.2.2.2.2.2.1 v.2.2.2.2.2.2.2.2.2.2.2.2.2.2.1 v.2.2.2.2.2.2.2.2.2.2.2.2.2.2.2.1 v.2.2.2.2.2.2.2.2.2.2.2.2.2.2.2.2.1 v.2.2.2.2.2.2.2.2.2.2.2.2.2.2.2.2.2.1 v.2.2.2.2.2.2.2.2.2.2.2.2.2.2.2.2.2.2
@[irreducible] noncomputable def w : World := c.1
@[irreducible] noncomputable def A : Around := c.2.1
@[irreducible] noncomputable def s : Shared := c.2.2.1
@[irreducible] noncomputable def p : Program := c.2.2.2.1
@[irreducible] noncomputable def loose : List Str := c.2.2.2.2.1
@[irreducible] noncomputable def mean : ExcName → Option Value := c.2.2.2.2.2.1
@[irreducible] noncomputable def mg : Str → Option Value := c.2.2.2.2.2.2.1
@[irreducible] noncomputable def mb : Str → Option Value := c.2.2.2.2.2.2.2.1
@[irreducible] noncomputable def g : Heap := c.2.2.2.2.2.2.2.2.1
@[irreducible] noncomputable def Q : Value → Shared → Prop := c.2.2.2.2.2.2.2.2.2.1
@[irreducible] noncomputable def E : Value → Shared → Prop := c.2.2.2.2.2.2.2.2.2.2.1
@[irreducible] noncomputable def l : Addr := c.2.2.2.2.2.2.2.2.2.2.2.1
@[irreducible] noncomputable def vs : List Value := c.2.2.2.2.2.2.2.2.2.2.2.2.1
@[irreducible] noncomputable def nn : Nat := c.2.2.2.2.2.2.2.2.2.2.2.2.2.1
@[irreducible] noncomputable def pre : List Int := c.2.2.2.2.2.2.2.2.2.2.2.2.2.2.1
@[irreducible] noncomputable def post : List Int := c.2.2.2.2.2.2.2.2.2.2.2.2.2.2.2.1
@[irreducible] noncomputable def inf : Bool := c.2.2.2.2.2.2.2.2.2.2.2.2.2.2.2.2.1
@[irreducible] noncomputable def e1 : Addr := c.2.2.2.2.2.2.2.2.2.2.2.2.2.2.2.2.2.1
@[irreducible] noncomputable def e2 : Addr := c.2.2.2.2.2.2.2.2.2.2.2.2.2.2.2.2.2.2
set_option maxHeartbeats 4000000 in
theorem spec_c : Stmt w A s p loose mean mg mb g Q E l vs nn pre post inf e1 e2 := by
  intro X T hk hh hroom hl hi hpre hlen hinf hfin hwr hlw hgw hq
  refine wpAny_call ?_
  refine' enterG (K := hd.heap_1 w.params) X T hk (binds := [("grouping", .ref l)]) ?ho ?hcd ?hroom ?hb ?hloc ?c1 ?c2 ?c3 ?c4 ?_
  case ho => k_is
  case hcd => k_is
  case hroom => lia
  case hb => exact bindsTo_peek (X.keeps hk) (fun S => by kernel_rfl)
  case hloc => exact locs rfl
  case c1 => exact rfl
  case c2 => exact rfl
  case c3 => exact rfl
  case c4 => decide
  intro h₁ hns hk₁ hs1
  have hlt : @LT.lt Nat _ l s.heap.objs.size := Heap.lt_size hl
  have hCn : s.heap.get? s.heap.objs.size = none := Heap.get?_none_of_le (Nat.le_refl _)
  have han : s.heap.get? h₁.objs.size = none := Heap.get?_none_of_le (by lia)
  have haC : @Ne Nat h₁.objs.size s.heap.objs.size := by lia
  generalize hog : ({ cls := .type "generator", data := .fields #[.int s.gens.size 0, .str _ (s.toks + _), .str _ (s.toks + _ + 1)] } : Obj) = og
  refine hq _ s.gens.size _ _ _ s.heap.objs.size (fun b => (∃ o, s.heap.get? b = some o) ∨ b = h₁.objs.size) ⟨⟨og, _, _, Heap.get?_push_size _ (by rw [← hog]; rfl), by rw [← hog], by rw [← hog], by rw [← hog]⟩, _, Array.getElem?_push_size .., fun s₁ hal hex => ?_⟩ (fun b o e => Heap.get?_push_of_some _ (hk₁ b o e)) hCn han haC (.inr rfl) (fun b o e => .inl ⟨o, e⟩) ?_
  case refine_2 =>
    intro hb z hz
    rcases Array.mem_push.mp hz with q | rfl
    · exact hb _ q
    · rfl
  dsimp only at hal
  generalize hB : hideAll s.heap [e1, e2] = B
  have hBs : B.objs.size = s.heap.objs.size := by rw [← hB, hideAll_size]
  have hgB : ∀ b o, g.get? b = some o → B.get? b = some o := fun b o e => hB ▸ hideAll_get _ (hk b o e) fun q => by rw [hgw b q] at e; cases e
  have X' := X.keeps hgB
  have T' := T.keeps hgB
  have hCw : s.heap.objs.size ∉ [e1, e2] := fun q => by obtain ⟨o, e⟩ := hwr _ q; rw [hCn] at e; cases e
  have haw : h₁.objs.size ∉ [e1, e2] := fun q => by obtain ⟨o, e⟩ := hwr _ q; rw [han] at e; cases e
  have hBn : ∀ b, s.heap.get? b = none → B.get? b = none := fun b e => by
    cases q : B.get? b with
    | none => rfl
    | some o => rw [← hB] at q; rw [of_hideAll _ q] at e; cases e
  have hns₁ := hns.at' (h' := s₁.heap) fun o e => hal _ o hCw (Heap.get?_push_of_some _ e)
  obtain ⟨o1, ho1⟩ := hex e1 (.head _)
  obtain ⟨o2, ho2⟩ := hex e2 (.tail _ (.head _))
  have F : Fr B s.heap.objs.size s₁.heap _ := ⟨hns₁, fun b o e => by
    rw [← hB] at e
    exact hal b o (fun q => by rw [hideAll_none _ q] at e; cases e) (Heap.get?_push_of_some _ (hk₁ b o (of_hideAll _ e))), Nat.le_of_eq hBs⟩
  have N : News B s.heap.objs.size s₁.heap [(e1, o1), (e2, o2), (h₁.objs.size, og)] := fun q hq => by
    simp only [List.mem_cons, List.not_mem_nil, or_false] at hq
    rcases hq with rfl | rfl | rfl
    · exact ⟨ho1, fun q => hCw (q ▸ .head _), hB ▸ hideAll_none _ (.head _)⟩
    · exact ⟨ho2, fun q => hCw (q ▸ .tail _ (.head _)), hB ▸ hideAll_none _ (.tail _ (.head _))⟩
    · exact ⟨hal _ _ haw (Heap.get?_push_size _ (by rw [← hog]; rfl)), haC, hBn _ han⟩
  have hZ : ∀ o1 o2 b, ((∃ o, s.heap.get? b = some o) ∨ b = h₁.objs.size) → (∃ o, B.get? b = some o) ∨ b ∈ ([(e1, o1), (e2, o2), (h₁.objs.size, og)] : List (Addr × Obj)).map (·.1) := by
    intro o1 o2 b hb
    rcases hb with ⟨o, e⟩ | rfl
    · by_cases q : b ∈ [e1, e2]
      · right
        simp only [List.mem_cons, List.not_mem_nil, or_false] at q
        rcases q with rfl | rfl <;> simp
      · exact .inl ⟨o, hB ▸ hideAll_get _ e q⟩
    · right; simp
  clear hal hns₁ hex hns
  refine ⟨rfl, ?_⟩
  refine seg_func ?_
  refine seg_execs_cons ?_
  refine seg_wrap ?_
  refine wpAny_none hh fun d1 f1 g1 u1 => ?_
  have since0 := fun (h' : Heap) m' (F' : Fr B s.heap.objs.size h' m') (N' : News B s.heap.objs.size h' [(e1, o1), (e2, o2), (h₁.objs.size, og)]) => since_step F F' N N' (hZ o1 o2)
  k_steps
  rename Fr _ _ _ _ => F1
  rename News _ _ _ _ => N1
  rename Heap => h₄
  show Seg _ _ _ _ _ _ _ (Sem.wrap _ _ _ _ (execs _ _)) _ _
  refine seg_execs_cons ?_
  refine seg_For ?_
  refine wpAny_none hh fun d1 f1 g1 u1 => ?_
  k_steps
  refine Stop.of ?_
  have hlB : B.get? l = some (listOf vs.toArray nn) := hB ▸ hideAll_get _ hl hlw
  have hl2 := F1.keep _ _ hlB
  refine list_iter (items := vs.toArray) ⟨_, hl2, rfl, nn, rfl⟩ fun h3 hit hk3 p => ?_
  dsimp only at hit hk3 ⊢
  have hIn : ∀ b o, h₄.get? b = some o → b ≠ h₄.objs.size := fun b o e => Nat.ne_of_lt (Heap.lt_size e)
  have hCI : s.heap.objs.size ≠ h₄.objs.size := by
    obtain ⟨o, _, _, ho, _⟩ := F1.ns
    exact hIn _ _ ho
  have hLI : ∀ o1 o2 : Obj, ∀ p ∈ [(e1, o1), (e2, o2), (h₁.objs.size, og)], p.1 ≠ h₄.objs.size := fun o1 o2 p hp => by
    simp only [List.mem_cons, List.not_mem_nil, or_false] at hp
    rcases hp with rfl | rfl | rfl
    · exact hIn _ _ (N1.get (.head _))
    · exact hIn _ _ (N1.get (.tail _ (.head _)))
    · exact hIn _ _ (N1.get (.tail _ (.tail _ (.head _))))
  have hBI : B.get? h₄.objs.size = none := by
    cases e : B.get? h₄.objs.size with
    | none => rfl
    | some o => exact absurd rfl (hIn _ _ (F1.keep _ _ e))
  have hlI : l ≠ h₄.objs.size := hIn _ _ hl2
  obtain ⟨oi0, hoi0, hoi1⟩ := id hit
  refine seg_ind (giInv B s.heap.objs.size _ l vs nn (fun b => (∃ o, s.heap.get? b = some o) ∨ b = h₁.objs.size) pre e1 e2 h₁.objs.size og) ?step _ _ _ ⟨0, .none, none, o1, o2, oi0, rfl, Nat.zero_le _, fun _ e => (nomatch e), ?iF, ?iN, hit, hk3 _ _ hl2, ?iG⟩
  case iF =>
    refine Fr.congr (F1.keeps hk3) fun y => ?_
    unfold giMap
    simp only [List.reverse_cons, List.reverse_nil, List.nil_append, List.lookup_cons, List.lookup_nil]
    by_cases h1 : y = Str.ofString "last_interval"
    · rw [if_pos h1, if_pos h1]
    · rw [if_neg h1, if_neg h1]
      by_cases h2 : y = Str.ofString "grouping"
      · subst h2; rfl
      · have b8 : (y == Str.ofString "grouping") = false := by simpa using h2
        simp only [b8, if_neg h2]
        split <;> rfl
  case iN =>
    exact fun q hq => (List.mem_cons.mp hq).elim (fun e => e ▸ ⟨hoi0, Ne.symm hCI, hBI⟩) fun hq => N1.keeps hk3 q hq
  case iG =>
    exact ⟨_, _, rfl, since0 _ _ (F1.keeps hk3) (N1.keeps hk3)⟩
  clear hIn
  generalize h₄.objs.size = I at hCI hLI hBI hlI ⊢
  clear F1 N1 ho1 ho2 since0 hoi0 hoi1 hit hk3 hl2
  rintro n s₀ s₂ ⟨i, last, u, o1', o2', oi, hn, hip, hlast, F, N, hit', hl', hsince⟩ ih
  refine seg_forLoop ?_
  refine wpAny_none hh fun d1 f1 g1 u1 => ?_
  by_cases hiv : i < vs.toArray.size
  · refine (Walks.list (prog := PG) (w := w) (A := ⟨none, d1, f1, g1, u1⟩) rfl I l hlI vs.toArray).item i s₂ _ _ hiv ⟨hit', _, hl', rfl, nn, rfl⟩ fun v h5 tk5 hv st5 k5 => ?_
    obtain ⟨x, t, rfl, hx⟩ := ints_at hi (by simpa using hv)
    have k5' : ∀ b o, b ≠ I → s₂.heap.get? b = some o → h5.get? b = some o := fun b o q e => k5 b o (by simpa using q) e
    have F5 := Fr.but F hCI hBI k5'
    have N5' := News.but (fun p hp => N p (.tail _ hp)) (hLI _ _) k5'
    have hs5 := hsince.step (h' := h5) (tk := tk5) (since_step F F5 (fun p hp => N p (.tail _ hp)) N5' (hZ _ _))
    obtain ⟨oi5, hoi5, _⟩ := id st5.1
    have N5 : News B s.heap.objs.size h5 [(I, oi5), (e1, o1'), (e2, o2'), (h₁.objs.size, og)] := fun q hq => (List.mem_cons.mp hq).elim (fun e => e ▸ ⟨hoi5, Ne.symm hCI, hBI⟩) fun hq => N5' q hq
    clear N5'
    have hl5 := k5' _ _ hlI hl'
    clear F N
    dsimp only
    refine wpAny_of_eq (rfl : letOwnedTupleGo _ _ _ = pure ()) ?_
    unfold giMap at F5
    have since5 := fun (h' : Heap) m' (F' : Fr B s.heap.objs.size h' m') (N' : News B s.heap.objs.size h' [(I, oi5), (e1, o1'), (e2, o2'), (h₁.objs.size, og)]) => since_step F5 F' (fun p hp => N5 p (.tail _ hp)) (fun p hp => N' p (.tail _ hp)) (hZ _ _)
    k_steps
    rename Fr _ _ _ _ => F6
    rename News _ _ _ _ => N6
    clear k5 k5' hit' hl'
    have hpi : i < pre.length → pre[i]? = some x := fun q => by rwa [List.getElem?_append_left q] at hx
    have hpo : i = pre.length → post[0]? = some x := fun q => by rw [List.getElem?_append_right (by lia)] at hx; simpa [q] using hx
    refine seg_execs_cons ?_
    refine seg_If ?_
    refine wpAny_none hh fun d1 f1 g1 u1 => ?_
    by_cases h127 : x = 127
    · have hil : i = pre.length := by
        rcases Nat.lt_or_ge i pre.length with q | q
        · exact absurd h127 (hpre x (List.mem_of_getElem? (hpi q))).1
        · lia
      subst h127
      k_steps
      refine seg_execs_cons ?_
      refine seg_wrap ?_
      refine wpAny_none hh fun d1 f1 g1 u1 => ?_
      k_steps
      rename Fr _ _ _ _ => F7
      rename News _ _ _ _ => N7
      refine seg_leaf (.ok (.ret .none)) ?_
      refine seg_end (.ok (.ret .none)) ⟨rfl, ?_, hs5.step (since5 _ _ F7 N7)⟩
      have e1 : gLots - n = i := by lia
      rw [e1]
      unfold gOut
      rw [if_neg (by lia)]
      cases hif : inf with
      | false => rfl
      | true =>
        obtain ⟨_, r, hr⟩ := hinf hif
        have := hpo hil
        rw [hr] at this
        cases this
    · by_cases h0 : x = 0
      · have hil : i = pre.length := by
          rcases Nat.lt_or_ge i pre.length with q | q
          · exact absurd h0 (hpre x (List.mem_of_getElem? (hpi q))).2
          · lia
        have hif : inf = true := by
          cases hif : inf with
          | true => rfl
          | false =>
            rcases hfin hif with hr | ⟨r, hr⟩
            · have := hpo hil; rw [hr] at this; cases this
            · have := hpo hil; rw [hr] at this; exact absurd (Option.some.inj this).symm h127
        have hpn := (hinf hif).1
        obtain ⟨j, hj⟩ : ∃ j, i = j + 1 := ⟨i - 1, by have := List.length_pos_iff.mpr hpn; lia⟩
        obtain ⟨y, ty, rfl, hy⟩ := hlast j hj
        k_steps
        · exact absurd (by assumption) h127
        refine seg_execs_nil ?_
        show Seg _ _ _ _ _ _ _ (Sem.wrap _ _ _ _ (execs _ _)) _ _
        refine seg_execs_cons ?_
        refine seg_If ?_
        refine wpAny_none hh fun d1 f1 g1 u1 => ?_
        k_steps
        rotate_left
        · exact absurd h0 (by assumption)
        refine seg_execs_cons ?_
        refine seg_If ?_
        refine wpAny_none hh fun d1 f1 g1 u1 => ?_
        k_steps
        rename Fr _ _ _ _ => F7
        rename News _ _ _ _ => N7
        refine seg_execs_nil ?_
        show Seg _ _ _ _ _ _ _ (Sem.wrap _ _ _ _ (execs _ _)) _ _
        refine seg_execs_cons ?_
        refine seg_While fun p2 => ?_
        refine seg_ind (whInv B s.heap.objs.size l (fun b => (∃ o, s.heap.get? b = some o) ∨ b = h₁.objs.size) pre.length y ty e1 e2 h₁.objs.size og) ?_ _ _ _ ⟨by unfold gLots at hn; lia, by lia, some (.int x t), o1', o2', Fr.congr F7 fun z => ?_, fun p hp => N7 p (.tail _ hp), hs5.step (since5 _ _ F7 N7)⟩
        case refine_2 =>
          unfold giMap
          by_cases q1 : z = Str.ofString "interval"
          · subst q1; rfl
          · rw [if_neg q1, if_neg q1, if_neg q1]
        clear F7 N7 since5 ih
        rintro n s₀ s₃ ⟨hn1, hnk, u, o1', o2', F, N, hs3⟩ ih
        unfold giMap at F
        refine seg_whileLoop ?_
        refine wpAny_none hh fun d1 f1 g1 u1 => ?_
        k_steps
        refine seg_execs_cons ?_
        obtain ⟨m, rfl⟩ : ∃ m, n = m + 1 := ⟨n - 1, by lia⟩
        refine seg_Expr_Yield rfl rfl rfl ?_
        refine wpAny_none hh fun d1 f1 g1 u1 => ?_
        k_steps
        rename Fr _ _ _ _ => F7
        rename News _ _ _ _ => N7
        rename (∀ (_ : Value) (_ : Shared), _ → _) => hkap
        refine ⟨⟨y, ty, ?_, rfl⟩, hs3, ?_⟩
        · have e1 : pre.length ≤ gLots - 1 - m := by lia
          unfold gOut
          rw [if_neg (by lia), if_pos hif, List.getLast?_eq_getElem?]
          have : pre.length - 1 = j := by lia
          rw [this]
          exact hy
        · rcases Nat.eq_zero_or_pos m with q | q
          · exact .inl q
          · refine .inr fun s'' k kx => hkap .none s'' ?_
            obtain ⟨o1x, ho1x⟩ := kx e1 (.head _)
            obtain ⟨o2x, ho2x⟩ := kx e2 (.tail _ (.head _))
            show Seg _ _ _ _ _ _ _ (Sem.wrap _ _ _ _ (execs _ _)) _ _
            refine seg_execs_nil ?_
            refine seg_again rfl (ih m s'' _ (by lia) ⟨q, by lia, u, o1x, o2x, ⟨F7.ns.at' fun o e => k _ o hCw e, fun b o e => k b o (fun q => by rw [← hB, hideAll_none _ q] at e; cases e) (F7.keep b o e), F7.above⟩, fun q hq => ?_, GSince.refl _ _ _⟩)
            simp only [List.mem_cons, List.not_mem_nil, or_false] at hq
            rcases hq with rfl | rfl | rfl
            · exact ⟨ho1x, (N7 _ (.head _)).2⟩
            · exact ⟨ho2x, (N7 _ (.tail _ (.head _))).2⟩
            · exact ⟨k _ _ haw (N7.get (.tail _ (.tail _ (.head _)))), haC, hBn _ han⟩
      · k_steps
        · exact absurd (by assumption) h127
        refine seg_execs_nil ?_
        show Seg _ _ _ _ _ _ _ (Sem.wrap _ _ _ _ (execs _ _)) _ _
        refine seg_execs_cons ?_
        refine seg_If ?_
        refine wpAny_none hh fun d1 f1 g1 u1 => ?_
        k_steps
        · exact absurd (by assumption) h0
        refine seg_execs_nil ?_
        show Seg _ _ _ _ _ _ _ (Sem.wrap _ _ _ _ (execs _ _)) _ _
        refine seg_execs_cons ?_
        obtain ⟨m, rfl⟩ : ∃ m, n = m + 1 := ⟨n - 1, by unfold gLots at hn; lia⟩
        refine seg_Expr_Yield rfl rfl rfl ?_
        refine wpAny_none hh fun d1 f1 g1 u1 => ?_
        k_steps
        rename Fr _ _ _ _ => F7
        rename News _ _ _ _ => N7
        rename (∀ (_ : Value) (_ : Shared), _ → _) => hkap
        have hil : i < pre.length := by
          rcases Nat.lt_or_ge i pre.length with q | q
          · exact q
          · have hpo' := hpo (by lia)
            cases hif : inf with
            | true =>
              obtain ⟨_, r, hr⟩ := hinf hif
              rw [hr] at hpo'
              exact absurd (Option.some.inj hpo').symm h0
            | false =>
              rcases hfin hif with hr | ⟨r, hr⟩
              · rw [hr] at hpo'; cases hpo'
              · rw [hr] at hpo'
                exact absurd (Option.some.inj hpo').symm h127
        refine ⟨⟨x, t, ?_, rfl⟩, hs5.step (since5 _ _ F7 N7), ?_⟩
        · have e1 : gLots - 1 - m = i := by lia
          rw [e1]
          unfold gOut
          rw [if_pos hil]
          exact hpi hil
        · refine .inr fun s'' k kx => hkap .none s'' ?_
          dsimp only at k
          obtain ⟨o1x, ho1x⟩ := kx e1 (.head _)
          obtain ⟨o2x, ho2x⟩ := kx e2 (.tail _ (.head _))
          have hIw : I ∉ [e1, e2] := fun q => by
            simp only [List.mem_cons, List.not_mem_nil, or_false] at q
            rcases q with q | q
            · exact hLI o1' o2' (e1, o1') (.head _) q.symm
            · exact hLI o1' o2' (e2, o2') (.tail _ (.head _)) q.symm
          have F : Fr B s.heap.objs.size s''.heap _ := ⟨F7.ns.at' fun o e => k _ o hCw e, fun b o e => k b o (fun q => by rw [← hB, hideAll_none _ q] at e; cases e) (F7.keep b o e), F7.above⟩
          have N : News B s.heap.objs.size s''.heap [(I, oi5), (e1, o1x), (e2, o2x), (h₁.objs.size, og)] := fun q hq => by
            simp only [List.mem_cons, List.not_mem_nil, or_false] at hq
            rcases hq with rfl | rfl | rfl | rfl
            · exact ⟨k _ _ hIw (N7.get (.head _)), Ne.symm hCI, hBI⟩
            · exact ⟨ho1x, (N7 _ (.tail _ (.head _))).2⟩
            · exact ⟨ho2x, (N7 _ (.tail _ (.tail _ (.head _)))).2⟩
            · exact ⟨k _ _ haw (N7.get (.tail _ (.tail _ (.tail _ (.head _))))), haC, hBn _ han⟩
          have since7 := fun (h' : Heap) m' (F' : Fr B s.heap.objs.size h' m') (N' : News B s.heap.objs.size h' [(I, oi5), (e1, o1x), (e2, o2x), (h₁.objs.size, og)]) => since_step F F' (fun p hp => N p (.tail _ hp)) (fun p hp => N' p (.tail _ hp)) (hZ _ _)
          clear F7 N7 hkap since5
          show Seg _ _ _ _ _ _ _ (Sem.wrap _ _ _ _ (execs _ _)) _ _
          refine seg_execs_cons ?_
          refine seg_wrap ?_
          refine wpAny_none hh fun d1 f1 g1 u1 => ?_
          k_steps
          rename Fr _ _ _ _ => F8
          rename News _ _ _ _ => N8
          show Seg _ _ _ _ _ _ _ (Sem.wrap _ _ _ _ (execs _ _)) _ _
          refine seg_execs_nil ?_
          refine seg_again rfl (ih m s'' _ (by lia) ⟨i + 1, .int x t, some (.int x t), o1x, o2x, oi5, by lia, hil, fun j e => ⟨x, t, rfl, ?_⟩, Fr.congr F8 fun y => ?_, N8, ?_, F8.keep _ _ hlB, ⟨_, _, rfl, since7 _ _ F8 N8⟩⟩)
          · have : j = i := by lia
            rw [this]; exact hpi hil
          · unfold giMap
            by_cases q1 : y = Str.ofString "last_interval"
            · rw [if_pos q1, if_pos q1]
            · rw [if_neg q1, if_neg q1, if_neg q1]
              by_cases q2 : y = Str.ofString "interval"
              · rw [if_pos q2, if_pos q2]
              · rw [if_neg q2, if_neg q2, if_neg q2]
          · exact st5.1.at fun o e => by
              rw [hoi5] at e; cases e
              exact N8.get (.head _)
  · have hlen2 : vs.length = pre.length + post.length := by rw [← List.length_append]; exact hi.length
    have hiv' : vs.length ≤ i := by simpa using hiv
    have hil : i = pre.length := by lia
    have hpe : post = [] := List.eq_nil_of_length_eq_zero (by lia)
    have hsz : i = vs.toArray.size := by simp; lia
    refine (Walks.list (prog := PG) (w := w) (A := ⟨none, d1, f1, g1, u1⟩) rfl I l hlI vs.toArray).done s₂ _ _ ⟨hsz ▸ hit', _, hl', rfl, nn, rfl⟩ fun h5 tk5 k5 => ?_
    have k5' : ∀ b o, b ≠ I → s₂.heap.get? b = some o → h5.get? b = some o := fun b o q e => k5 b o (by simpa using q) e
    dsimp only
    refine seg_leaf (.ok .next) ?_
    show Seg _ _ _ _ _ _ _ (Sem.wrap _ _ _ _ (execs _ _)) _ _
    refine seg_execs_nil ?_
    refine seg_end (.ok (.ret .none)) ⟨rfl, ?_, hsince.step (since_step F (Fr.but F hCI hBI k5') (fun p hp => N p (.tail _ hp)) (News.but (fun p hp => N p (.tail _ hp)) (hLI _ _) k5') (hZ _ _))⟩
    have e1 : gLots - n = i := by lia
    rw [e1]
    unfold gOut
    rw [if_neg (by lia)]
    cases hif : inf with
    | false => rfl
    | true =>
      obtain ⟨_, r, hr⟩ := hinf hif
      rw [hr] at hpe
      cases hpe
theorem all : Stmt c.1 c.2.1 c.2.2.1 c.2.2.2.1 c.2.2.2.2.1 c.2.2.2.2.2.1 c.2.2.2.2.2.2.1 c.2.2.2.2.2.2.2.1 c.2.2.2.2.2.2.2.2.1 c.2.2.2.2.2.2.2.2.2.1 c.2.2.2.2.2.2.2.2.2.2.1 c.2.2.2.2.2.2.2.2.2.2.2.1 c.2.2.2.2.2.2.2.2.2.2.2.2.1 c.2.2.2.2.2.2.2.2.2.2.2.2.2.1 c.2.2.2.2.2.2.2.2.2.2.2.2.2.2.1 c.2.2.2.2.2.2.2.2.2.2.2.2.2.2.2.1 c.2.2.2.2.2.2.2.2.2.2.2.2.2.2.2.2.1 c.2.2.2.2.2.2.2.2.2.2.2.2.2.2.2.2.2.1 c.2.2.2.2.2.2.2.2.2.2.2.2.2.2.2.2.2.2 := by
  have h := spec_c
  unfold w A s p loose mean mg mb g Q E l vs nn pre post inf e1 e2 at h
  exact h
end Gi
theorem gi_spec {w : World} {A : Around} {s : Shared} {p : Program} {loose : List Str} {mean : ExcName → Option Value} {mg mb : Str → Option Value} {g : Heap}
    {Q E : Value → Shared → Prop} {l : Addr} {vs : List Value} {nn : Nat} {pre post : List Int} {inf : Bool} {e1 e2 : Addr}
    (X : (hd.heap_1 w.params).In g) (T : Top p loose mean mg mb g) (hk : ∀ b o, g.get? b = some o → s.heap.get? b = some o)
    (hh : A.handled = none) (hroom : A.depth + 5 < recursionLimit) (hl : s.heap.get? l = some (listOf vs.toArray nn)) (hi : IntsAre vs (pre ++ post)) (hpre : ∀ x ∈ pre, x ≠ 127 ∧ x ≠ 0) (hlen : pre.length < 900)
    (hinf : inf = true → pre ≠ [] ∧ ∃ r, post = 0 :: r) (hfin : inf = false → post = [] ∨ ∃ r, post = 127 :: r)
    (hwr : ∀ b ∈ [e1, e2], ∃ o, s.heap.get? b = some o) (hlw : l ∉ [e1, e2]) (hgw : ∀ b ∈ [e1, e2], g.get? b = none)
    (hq : ∀ a gi h' tk gs C Z, GAt w A a gi [e1, e2] C Z pre inf 0 { s with heap := h', toks := tk, gens := gs } → (∀ b o, s.heap.get? b = some o → h'.get? b = some o) → s.heap.get? C = none → s.heap.get? a = none → a ≠ C → Z a → (∀ b o, s.heap.get? b = some o → Z b) → (AllBare s.gens → AllBare gs) → Q (.ref a) { s with heap := h', toks := tk, gens := gs }) :
    wpAny (model PG w) A (call (.ref 28) [.ref l]) Q E s := by
  exact of_pick Gi.ne (fun v => Gi.Stmt v.1 v.2.1 v.2.2.1 v.2.2.2.1 v.2.2.2.2.1 v.2.2.2.2.2.1 v.2.2.2.2.2.2.1 v.2.2.2.2.2.2.2.1 v.2.2.2.2.2.2.2.2.1 v.2.2.2.2.2.2.2.2.2.1 v.2.2.2.2.2.2.2.2.2.2.1 v.2.2.2.2.2.2.2.2.2.2.2.1 v.2.2.2.2.2.2.2.2.2.2.2.2.1 v.2.2.2.2.2.2.2.2.2.2.2.2.2.1 v.2.2.2.2.2.2.2.2.2.2.2.2.2.2.1 v.2.2.2.2.2.2.2.2.2.2.2.2.2.2.2.1 v.2.2.2.2.2.2.2.2.2.2.2.2.2.2.2.2.1 v.2.2.2.2.2.2.2.2.2.2.2.2.2.2.2.2.2.1 v.2.2.2.2.2.2.2.2.2.2.2.2.2.2.2.2.2.2) Gi.all (w, A, s, p, loose, mean, mg, mb, g, Q, E, l, vs, nn, pre, post, inf, e1, e2) X T hk hh hroom hl hi hpre hlen hinf hfin hwr hlw hgw hq
end RS
end PartG3

section PartL1
open PySem PySem.W PyProof.Rows PySem.Calls
set_option Elab.async false
set_option maxRecDepth 100000
namespace RS
section
variable {prog : Program} {w : World} {A : Around} {E : Value → Shared → Prop}

/-- two names over what the library walks in pairs -/
theorem feedPair {g : Heap} {I : Addr} {fpW wr : List Addr} {n : Nat} {Pt : Nat → Array Value → Prop} {St : Nat → Heap → Prop} {Mid : Nat → Addr → Heap → Prop} (W : WalksU prog w A I fpW wr n Pt St Mid) (hh : A.handled = none)
    (hf : ∀ b ∈ fpW, b ∈ wr ∨ ∃ o, g.get? b = some o) (ex : ∀ i h, St i h → ∀ b ∈ wr, ∃ o, h.get? b = some o) (hP : ∀ i vals, Pt i vals → ∃ a b, vals = #[a, b]) (x y : Str) (px py pt : Pos) (k : Nat) :
    Feed prog w A g (.Tuple [.Name x px, .Name y py] k pt) I wr n (fun i bs => ∃ a b, bs = [(x, a), (y, b)] ∧ Pt i #[a, b]) St where
  frame := fun i h h' st k k' kf => W.frame i h h' st fun b hb o e => by
    rcases hf b hb with hb | ⟨o', e'⟩
    · exact kf b hb o e
    · have := k b o' e'
      rw [this] at e; cases e
      exact k' b _ e'
  item := fun i s env Q hi st k h => by
    refine W.item i s _ _ hi st fun T vals h' tk hP' hT hM k' => ?_
    dsimp only
    refine W.go _ _ _ i T _ _ _ hM fun h2 st2 k2 => ?_
    obtain ⟨a, b, rfl⟩ := hP i vals hP'
    have hT2 : h2.IsTuple T #[a, b] := hT.at fun o e => k2 T o (W.apart i T h' hM) e
    refine wpAny_assign_Tuple hh hT2 rfl rfl fun h3 e3 => ?_
    have k3 : Sub h2 h3 := fun b o e => e3 b o (Nat.ne_of_lt (Heap.lt_size e)) e
    have st3 : St (i + 1) h3 := W.frame _ _ _ st2 fun b _ o e => k3 b o e
    have k03 : ∀ b o, b ∉ wr → s.heap.get? b = some o → h3.get? b = some o := fun b o q e => k3 b o (k2 b o q (k' b o q e))
    have base := h [(x, a), (y, b)] h3 tk ⟨a, b, rfl, hP'⟩ st3 k03 fun b o e => by
      by_cases hb : b ∈ wr
      · exact ex _ _ st3 b hb
      · exact ⟨o, k03 b o hb e⟩
    refine assignInOrder_cons (wpAny_assign_Name ?_)
    exact wpAny_mono base (fun _ s4 q => assignInOrder_cons (wpAny_assign_Name (wpAny_mono q (fun _ s5 q5 => assignInOrder_nil q5) fun _ _ z => z))) fun _ _ z => z
  done := fun s Q st k h => W.done s _ _ st fun h' tk kp => h h' tk kp
  self := fun i s Q E st h => W.self i s Q E st h

/-- what the turns bind -/
abbrev BList (x : Str) (vs : List Value) (i : Nat) (bs : List (Str × Value)) : Prop := ∃ v, bs = [(x, v)] ∧ vs[i]? = some v
abbrev BRange (x : Str) (a : Int) (i : Nat) (bs : List (Str × Value)) : Prop := ∃ v, bs = [(x, v)] ∧ ∃ t, v = .int (a + i) t
abbrev BEnum (x y : Str) (vs : List Value) (i : Nat) (bs : List (Str × Value)) : Prop := ∃ a b, bs = [(x, a), (y, b)] ∧ ∃ t, a = .int i t ∧ vs[i]? = some b
abbrev BZip (x y : Str) (xs ys : List Value) (i : Nat) (bs : List (Str × Value)) : Prop := ∃ a b, bs = [(x, a), (y, b)] ∧ xs[i]? = some a ∧ ys[i]? = some b
abbrev BPairs (x y : Str) (ps : List (Int × Int)) (i : Nat) (bs : List (Str × Value)) : Prop := ∃ a b, bs = [(x, a), (y, b)] ∧ ∃ p t u, ps[i]? = some p ∧ a = .int p.1 t ∧ b = .int p.2 u
/-- what stands ready to feed a comprehension, made since s -/
def SrcP (prog : Program) (w : World) (A : Around) (s : Shared) (target : PySem.Expr) (n : Nat) (B : Nat → List (Str × Value) → Prop) (it : Value) (s₂ : Shared) : Prop :=
  ∃ I wr St h₂ tk₂, s₂ = { s with heap := h₂, toks := tk₂ } ∧ it = .ref I ∧ s.heap.objs.size ≤ h₂.objs.size ∧ Sub s.heap (hideAll h₂ wr) ∧ (∀ b ∈ wr, ∃ o, h₂.get? b = some o) ∧ St 0 h₂ ∧ Feed prog w A (hideAll h₂ wr) target I wr n B St
theorem SrcP.mk {s : Shared} {target : PySem.Expr} {n n' : Nat} {B B' : Nat → List (Str × Value) → Prop} {I : Addr} {wr : List Addr} {St : Nat → Heap → Prop} {h₂ : Heap} {tk₂ : Nat} (F : Feed prog w A (hideAll h₂ wr) target I wr n B St) (hst : St 0 h₂)
    (hsz : s.heap.objs.size ≤ h₂.objs.size) (hsub : Sub s.heap (hideAll h₂ wr)) (hwr : ∀ b ∈ wr, ∃ o, h₂.get? b = some o) (hn : n = n') (hB : ∀ i bs, i < n → B i bs → B' i bs) : SrcP prog w A s target n' B' (.ref I) { s with heap := h₂, toks := tk₂ } :=
  ⟨I, wr, St, h₂, tk₂, rfl, rfl, hsz, hsub, hwr, hst, hn ▸ ⟨F.frame, fun i s env Q hi st kk h => F.item i s env Q hi st kk fun bs h' tk hb => h bs h' tk (hB i bs hi hb), F.done, F.self⟩⟩

theorem fresh_sub {h h₂ : Heap} {wr : List Addr} (k : Sub h h₂) (hw : ∀ b ∈ wr, @LE.le Nat _ h.objs.size b) : Sub h (hideAll h₂ wr) := fun b o e => hideAll_get _ (k b o e) fun q => by
  have h1 := hw b q
  have h2 : @LT.lt Nat _ b h.objs.size := Heap.lt_size e
  lia
theorem hid_or {h₂ : Heap} {wr fp : List Addr} (hx : ∀ b ∈ fp, ∃ o, h₂.get? b = some o) : ∀ b ∈ fp, b ∈ wr ∨ ∃ o, (hideAll h₂ wr).get? b = some o := fun b hb => by
  by_cases q : b ∈ wr
  · exact .inl q
  · obtain ⟨o, e⟩ := hx b hb
    exact .inr ⟨o, hideAll_get _ e q⟩

/-- one name over a list -/
theorem src_list {s : Shared} {h₁ : Heap} {tk₁ : Nat} {l : Addr} {vs : List Value} (hh : A.handled = none) (k : Sub s.heap h₁) (hsz : s.heap.objs.size ≤ h₁.objs.size) (hl : h₁.IsList l vs.toArray) (x : Str) (px : Pos) :
    wpAny (model prog w) A (pyIter (.ref l)) (SrcP prog w A s (.Name x px) vs.length (BList x vs)) E { s with heap := h₁, toks := tk₁ } := by
  refine list_iter hl fun h2 hit k2 => ?_
  dsimp only at hit k2 ⊢
  have hlt : @LT.lt Nat _ l h₁.objs.size := by obtain ⟨o, e, _⟩ := hl; exact Heap.lt_size e
  have hl2 : h2.IsList l vs.toArray := hl.at fun o e => k2 l o e
  obtain ⟨oi, hoi, _⟩ := id hit
  obtain ⟨ol, hol, _⟩ := id hl2
  have F := feedName (g := hideAll h2 [h₁.objs.size]) (Walks.list (prog := prog) (w := w) hh h₁.objs.size l (Nat.ne_of_lt hlt) vs.toArray) (hid_or fun b hb => by
    simp only [List.mem_cons, List.not_mem_nil, or_false] at hb
    rcases hb with rfl | rfl
    · exact ⟨_, hoi⟩
    · exact ⟨_, hol⟩) (fun i h st b hb => by
    rw [List.mem_singleton.mp hb]
    obtain ⟨⟨o, e, _⟩, _⟩ := st
    exact ⟨o, e⟩) x px
  exact SrcP.mk F ⟨hit, hl2⟩ (Nat.le_trans hsz (Nat.le_of_lt (Heap.lt_size hoi))) (fresh_sub (k.trans k2) fun b hb => by rw [List.mem_singleton.mp hb]; exact hsz) (fun b hb => by rw [List.mem_singleton.mp hb]; exact ⟨_, hoi⟩) (by simp) fun i bs _ ⟨v, e, h⟩ => ⟨v, e, by simpa using h⟩
/-- one name over a range by ones -/
theorem src_range {s : Shared} {h₁ : Heap} {tk₁ : Nat} {r : Addr} {a b : Int} {n : Nat} {t u v : Tok} (hh : A.handled = none) (k : Sub s.heap h₁) (hsz : s.heap.objs.size ≤ h₁.objs.size) (hr : IsRange h₁ r a b 1 t u v) (hsmall : Builtin.Range.small a b 1 = true)
    (hn : Builtin.Range.rangeSize a b 1 = (n : Int)) (x : Str) (px : Pos) :
    wpAny (model prog w) A (pyIter (.ref r)) (SrcP prog w A s (.Name x px) n (BRange x a)) E { s with heap := h₁, toks := tk₁ } := by
  refine wpAny_pyIter_range hr hsmall ?_
  dsimp only
  generalize hH : h₁.push { cls := .type "range_iterator", data := .fields #[rawInt a, rawInt (Builtin.Range.rangeSize a b 1), rawInt 1] } = h2
  have k2 : Sub h₁ h2 := fun b o e => hH ▸ Heap.get?_push_of_some _ e
  have hit : IsRangeIter h2 h₁.objs.size (a + ((0 : Nat) : Int) * 1) ((n : Int) - ((0 : Nat) : Int)) 1 := by
    show IsRangeIter _ _ _ _ _; rw [← hH, hn]; simpa using Heap.get?_push_size _ rfl
  have F := feedName (g := hideAll h2 [h₁.objs.size]) (Walks.range (prog := prog) (w := w) hh h₁.objs.size a 1 n) (fun b hb => .inl hb) (fun i h st b hb => by
    rw [List.mem_singleton.mp hb]
    exact ⟨_, st⟩) x px
  exact SrcP.mk F hit (Nat.le_trans hsz (Nat.le_of_lt (Heap.lt_size hit))) (fresh_sub (k.trans k2) fun b hb => by rw [List.mem_singleton.mp hb]; exact hsz) (fun b hb => by rw [List.mem_singleton.mp hb]; exact ⟨_, hit⟩) rfl fun i bs _ ⟨v, e, t, h⟩ => ⟨v, e, t, by simpa using h⟩
/-- two names over enumerate(list) -/
theorem src_enum {s : Shared} {h₁ : Heap} {tk₁ : Nat} {e it l : Addr} {vs : List Value} (hh : A.handled = none) (k : Sub s.heap h₁) (he : IsEnum h₁ e it 0 .none) (hit : h₁.IsListIter it l 0) (hl : h₁.IsList l vs.toArray)
    (hei : e ≠ it) (hle : l ≠ e) (hli : l ≠ it) (h1 : @LE.le Nat _ s.heap.objs.size e) (h2 : @LE.le Nat _ s.heap.objs.size it) (x y : Str) (px py pt : Pos) (kk : Nat) :
    wpAny (model prog w) A (pyIter (.ref e)) (SrcP prog w A s (.Tuple [.Name x px, .Name y py] kk pt) vs.length (BEnum x y vs)) E { s with heap := h₁, toks := tk₁ } := by
  refine wpAny_pyIter_enum he ?_
  obtain ⟨oi, hoi, _⟩ := id hit
  obtain ⟨ol, hol, _⟩ := id hl
  have F := feedPair (g := hideAll h₁ [e, it]) (WalksT.enumerate (prog := prog) (w := w) hh e it l hei hle hli vs.toArray).toU hh (hid_or fun b hb => by
    simp only [List.mem_cons, List.not_mem_nil, or_false] at hb
    rcases hb with rfl | rfl | rfl
    · exact ⟨_, he⟩
    · exact ⟨_, hoi⟩
    · exact ⟨_, hol⟩) (fun i h st b hb => by
    obtain ⟨⟨old, e1⟩, ⟨o, e2, _⟩, _⟩ := st
    simp only [List.mem_cons, List.not_mem_nil, or_false] at hb
    rcases hb with rfl | rfl
    · exact ⟨_, e1⟩
    · exact ⟨_, e2⟩) (fun i vals hv => by obtain ⟨t, z, _, e⟩ := hv; exact ⟨_, _, e⟩) x y px py pt kk
  refine SrcP.mk F ⟨⟨_, he⟩, hit, hl⟩ (Nat.le_trans h1 (Nat.le_of_lt (Heap.lt_size he))) (fresh_sub k fun b hb => ?_) (fun b hb => ?_) (by simp) fun i bs _ hb => ?_
  · simp only [List.mem_cons, List.not_mem_nil, or_false] at hb
    rcases hb with rfl | rfl
    · exact h1
    · exact h2
  · simp only [List.mem_cons, List.not_mem_nil, or_false] at hb
    rcases hb with rfl | rfl
    · exact ⟨_, he⟩
    · exact ⟨_, hoi⟩
  · obtain ⟨a, b, e, t, z, hz, e2⟩ := hb
    obtain ⟨rfl, rfl⟩ : a = Value.int i t ∧ b = z := by simpa using congrArg Array.toList e2
    exact ⟨_, _, e, t, rfl, by simpa using hz⟩
end
namespace Nsrczip
abbrev V : Type := (Program) × (World) × (Around) × (Value → Shared → Prop) × (Shared) × (Heap) × (Nat) × (Addr) × (Addr) × (Addr) × (Addr) × (Addr) × (Addr) × (Addr) × (List Value) × (List Value)
def Say (prog : Program) (w : World) (A : Around) (E : Value → Shared → Prop) (s : Shared) (h₁ : Heap) (tk₁ : Nat) (z : Addr) (TI : Addr) (TO : Addr) (i1 : Addr) (i2 : Addr) (l1 : Addr) (l2 : Addr) (xs : List Value) (ys : List Value) : Prop := ∀ (hh : A.handled = none) (k : Sub s.heap h₁) (D : ZipApart z TI TO i1 i2 l1 l2) (hz : IsZip h₁ z TI TO .none) (hTI : IsPair h₁ TI (.ref i1) (.ref i2)) (hTO : IsPair h₁ TO .none .none) (hi1 : h₁.IsListIter i1 l1 0) (hi2 : h₁.IsListIter i2 l2 0) (hl1 : h₁.IsList l1 xs.toArray) (hl2 : h₁.IsList l2 ys.toArray) (hw : ∀ b ∈ [z, TO, i1, i2], @LE.le Nat _ s.heap.objs.size b) (x y : Str) (px py pt : Pos) (kk : Nat),
    wpAny (model prog w) A (pyIter (.ref z)) (SrcP prog w A s (.Tuple [.Name x px, .Name y py] kk pt) (min xs.length ys.length) (BZip x y xs ys)) E { s with heap := h₁, toks := tk₁ }
theorem ne : Nonempty V := ⟨(default, (Classical.choice neW), {}, (fun _ _ => True), {}, {}, 0, 0, 0, 0, 0, 0, 0, 0, [], [])⟩
noncomputable def c : V := pick ne fun v => Say v.1 v.2.1 v.2.2.1 v.2.2.2.1 v.2.2.2.2.1 v.2.2.2.2.2.1 v.2.2.2.2.2.2.1 v.2.2.2.2.2.2.2.1 v.2.2.2.2.2.2.2.2.1 v.2.2.2.2.2.2.2.2.2.1 v.2.2.2.2.2.2.2.2.2.2.1 v.2.2.2.2.2.2.2.2.2.2.2.1 v.2.2.2.2.2.2.2.2.2.2.2.2.1 v.2.2.2.2.2.2.2.2.2.2.2.2.2.1 v.2.2.2.2.2.2.2.2.2.2.2.2.2.2.1 v.2.2.2.2.2.2.2.2.2.2.2.2.2.2.2
@[irreducible] noncomputable def prog : Program := c.1
@[irreducible] noncomputable def w : World := c.2.1
@[irreducible] noncomputable def A : Around := c.2.2.1
@[irreducible] noncomputable def E : Value → Shared → Prop := c.2.2.2.1
@[irreducible] noncomputable def s : Shared := c.2.2.2.2.1
@[irreducible] noncomputable def h₁ : Heap := c.2.2.2.2.2.1
@[irreducible] noncomputable def tk₁ : Nat := c.2.2.2.2.2.2.1
@[irreducible] noncomputable def z : Addr := c.2.2.2.2.2.2.2.1
@[irreducible] noncomputable def TI : Addr := c.2.2.2.2.2.2.2.2.1
@[irreducible] noncomputable def TO : Addr := c.2.2.2.2.2.2.2.2.2.1
@[irreducible] noncomputable def i1 : Addr := c.2.2.2.2.2.2.2.2.2.2.1
@[irreducible] noncomputable def i2 : Addr := c.2.2.2.2.2.2.2.2.2.2.2.1
@[irreducible] noncomputable def l1 : Addr := c.2.2.2.2.2.2.2.2.2.2.2.2.1
@[irreducible] noncomputable def l2 : Addr := c.2.2.2.2.2.2.2.2.2.2.2.2.2.1
@[irreducible] noncomputable def xs : List Value := c.2.2.2.2.2.2.2.2.2.2.2.2.2.2.1
@[irreducible] noncomputable def ys : List Value := c.2.2.2.2.2.2.2.2.2.2.2.2.2.2.2
theorem spec_c : Say prog w A E s h₁ tk₁ z TI TO i1 i2 l1 l2 xs ys := by
  intro hh k D hz hTI hTO hi1 hi2 hl1 hl2 hw x y px py pt kk
  refine wpAny_pyIter_zip hz ?_
  obtain ⟨o1, ho1, _⟩ := id hi1
  obtain ⟨o2, ho2, _⟩ := id hi2
  obtain ⟨q1, hq1, _⟩ := id hl1
  obtain ⟨q2, hq2, _⟩ := id hl2
  have F := feedPair (g := hideAll h₁ [z, TO, i1, i2]) (WalksT.zip2 (prog := prog) (w := w) hh z TI TO i1 i2 l1 l2 D xs.toArray ys.toArray).toU hh (hid_or fun b hb => by
    simp only [List.mem_cons, List.not_mem_nil, or_false] at hb
    rcases hb with rfl | rfl | rfl | rfl | rfl | rfl | rfl
    · exact ⟨_, hz⟩
    · exact ⟨_, hTI⟩
    · exact ⟨_, hTO⟩
    · exact ⟨_, ho1⟩
    · exact ⟨_, ho2⟩
    · exact ⟨_, hq1⟩
    · exact ⟨_, hq2⟩) (fun i h st b hb => by
    obtain ⟨e1, e2, ⟨a, b', e3⟩, ⟨o, e4, _⟩, ⟨o', e5, _⟩, _⟩ := st
    simp only [List.mem_cons, List.not_mem_nil, or_false] at hb
    rcases hb with rfl | rfl | rfl | rfl
    · exact ⟨_, e1⟩
    · exact ⟨_, e3⟩
    · exact ⟨_, e4⟩
    · exact ⟨_, e5⟩) (fun i vals hv => by obtain ⟨a, b, _, _, e⟩ := hv; exact ⟨_, _, e⟩) x y px py pt kk
  refine SrcP.mk F ⟨hz, hTI, ⟨_, _, hTO⟩, hi1, hi2, hl1, hl2⟩ (Nat.le_trans (hw z (.head _)) (Nat.le_of_lt (Heap.lt_size hz))) (fresh_sub k hw) (fun b hb => ?_) (by simp) fun i bs _ hb => ?_
  · simp only [List.mem_cons, List.not_mem_nil, or_false] at hb
    rcases hb with rfl | rfl | rfl | rfl
    · exact ⟨_, hz⟩
    · exact ⟨_, hTO⟩
    · exact ⟨_, ho1⟩
    · exact ⟨_, ho2⟩
  · obtain ⟨a, b, e, a', b', h1, h2, e2⟩ := hb
    obtain ⟨rfl, rfl⟩ : a = a' ∧ b = b' := by simpa using congrArg Array.toList e2
    exact ⟨_, _, e, by simpa using h1, by simpa using h2⟩
theorem all : Say c.1 c.2.1 c.2.2.1 c.2.2.2.1 c.2.2.2.2.1 c.2.2.2.2.2.1 c.2.2.2.2.2.2.1 c.2.2.2.2.2.2.2.1 c.2.2.2.2.2.2.2.2.1 c.2.2.2.2.2.2.2.2.2.1 c.2.2.2.2.2.2.2.2.2.2.1 c.2.2.2.2.2.2.2.2.2.2.2.1 c.2.2.2.2.2.2.2.2.2.2.2.2.1 c.2.2.2.2.2.2.2.2.2.2.2.2.2.1 c.2.2.2.2.2.2.2.2.2.2.2.2.2.2.1 c.2.2.2.2.2.2.2.2.2.2.2.2.2.2.2 := by
  have h := spec_c
  unfold prog w A E s h₁ tk₁ z TI TO i1 i2 l1 l2 xs ys at h
  exact h
end Nsrczip
theorem src_zip {prog : Program} {w : World} {A : Around} {E : Value → Shared → Prop} {s : Shared} {h₁ : Heap} {tk₁ : Nat} {z TI TO i1 i2 l1 l2 : Addr} {xs ys : List Value} (hh : A.handled = none) (k : Sub s.heap h₁) (D : ZipApart z TI TO i1 i2 l1 l2)
    (hz : IsZip h₁ z TI TO .none) (hTI : IsPair h₁ TI (.ref i1) (.ref i2)) (hTO : IsPair h₁ TO .none .none) (hi1 : h₁.IsListIter i1 l1 0) (hi2 : h₁.IsListIter i2 l2 0) (hl1 : h₁.IsList l1 xs.toArray) (hl2 : h₁.IsList l2 ys.toArray)
    (hw : ∀ b ∈ [z, TO, i1, i2], @LE.le Nat _ s.heap.objs.size b) (x y : Str) (px py pt : Pos) (kk : Nat) :
    wpAny (model prog w) A (pyIter (.ref z)) (SrcP prog w A s (.Tuple [.Name x px, .Name y py] kk pt) (min xs.length ys.length) (BZip x y xs ys)) E { s with heap := h₁, toks := tk₁ } := by
  exact of_pick Nsrczip.ne (fun v => Nsrczip.Say v.1 v.2.1 v.2.2.1 v.2.2.2.1 v.2.2.2.2.1 v.2.2.2.2.2.1 v.2.2.2.2.2.2.1 v.2.2.2.2.2.2.2.1 v.2.2.2.2.2.2.2.2.1 v.2.2.2.2.2.2.2.2.2.1 v.2.2.2.2.2.2.2.2.2.2.1 v.2.2.2.2.2.2.2.2.2.2.2.1 v.2.2.2.2.2.2.2.2.2.2.2.2.1 v.2.2.2.2.2.2.2.2.2.2.2.2.2.1 v.2.2.2.2.2.2.2.2.2.2.2.2.2.2.1 v.2.2.2.2.2.2.2.2.2.2.2.2.2.2.2) Nsrczip.all (prog, w, A, E, s, h₁, tk₁, z, TI, TO, i1, i2, l1, l2, xs, ys) hh k D hz hTI hTO hi1 hi2 hl1 hl2 hw x y px py pt kk
section
variable {prog : Program} {w : World} {A : Around} {E : Value → Shared → Prop}
/-- the pairs of a list of tuples -/
def PairsAre (h : Heap) (rs : List Value) (ps : List (Int × Int)) : Prop := rs.length = ps.length ∧ ∀ (i : Nat) (v : Value), rs[i]? = some v → ∃ (b : Addr) (p : Int × Int) (t u : Tok), v = .ref b ∧ h.IsTuple b #[.int p.1 t, .int p.2 u] ∧ ps[i]? = some p
theorem PairsAre.keeps {h h' : Heap} {rs : List Value} {ps : List (Int × Int)} (P : PairsAre h rs ps) (k : Sub h h') : PairsAre h' rs ps :=
  ⟨P.1, fun i v e => let ⟨b, p, t, u, e1, e2, e3⟩ := P.2 i v e; ⟨b, p, t, u, e1, e2.at fun o q => k b o q, e3⟩⟩
end
namespace Nsrcpairs
abbrev V : Type := (Program) × (World) × (Around) × (Value → Shared → Prop) × (Shared) × (Heap) × (Nat) × (Addr) × (List Value) × (List (Int × Int))
def Say (prog : Program) (w : World) (A : Around) (E : Value → Shared → Prop) (s : Shared) (h₁ : Heap) (tk₁ : Nat) (l : Addr) (rs : List Value) (ps : List (Int × Int)) : Prop := ∀ (hh : A.handled = none) (k : Sub s.heap h₁) (hsz : s.heap.objs.size ≤ h₁.objs.size) (hl : h₁.IsList l rs.toArray) (hP : PairsAre h₁ rs ps) (x y : Str) (px py pt : Pos) (kk : Nat),
    wpAny (model prog w) A (pyIter (.ref l)) (SrcP prog w A s (.Tuple [.Name x px, .Name y py] kk pt) ps.length (BPairs x y ps)) E { s with heap := h₁, toks := tk₁ }
theorem ne : Nonempty V := ⟨(default, (Classical.choice neW), {}, (fun _ _ => True), {}, {}, 0, 0, [], [])⟩
noncomputable def c : V := pick ne fun v => Say v.1 v.2.1 v.2.2.1 v.2.2.2.1 v.2.2.2.2.1 v.2.2.2.2.2.1 v.2.2.2.2.2.2.1 v.2.2.2.2.2.2.2.1 v.2.2.2.2.2.2.2.2.1 v.2.2.2.2.2.2.2.2.2
@[irreducible] noncomputable def prog : Program := c.1
@[irreducible] noncomputable def w : World := c.2.1
@[irreducible] noncomputable def A : Around := c.2.2.1
@[irreducible] noncomputable def E : Value → Shared → Prop := c.2.2.2.1
@[irreducible] noncomputable def s : Shared := c.2.2.2.2.1
@[irreducible] noncomputable def h₁ : Heap := c.2.2.2.2.2.1
@[irreducible] noncomputable def tk₁ : Nat := c.2.2.2.2.2.2.1
@[irreducible] noncomputable def l : Addr := c.2.2.2.2.2.2.2.1
@[irreducible] noncomputable def rs : List Value := c.2.2.2.2.2.2.2.2.1
@[irreducible] noncomputable def ps : List (Int × Int) := c.2.2.2.2.2.2.2.2.2
theorem spec_c : Say prog w A E s h₁ tk₁ l rs ps := by
  intro hh k hsz hl hP x y px py pt kk
  refine list_iter hl fun h2 hit k2 => ?_
  dsimp only at hit k2 ⊢
  have hlt : @LT.lt Nat _ l h₁.objs.size := by obtain ⟨o, e, _⟩ := hl; exact Heap.lt_size e
  have hl2 : h2.IsList l rs.toArray := hl.at fun o e => k2 l o e
  have hP2 := hP.keeps k2
  obtain ⟨oi, hoi, _⟩ := id hit
  obtain ⟨ol, hol, _⟩ := id hl2
  have hex : ∀ i : Nat, ∃ q : Addr × Array Value, i < rs.length → rs[i]? = some (.ref q.1) ∧ q.1 < h₁.objs.size ∧ h2.IsTuple q.1 q.2 ∧ ∃ p t u, ps[i]? = some p ∧ q.2 = #[.int p.1 t, .int p.2 u] := fun i => by
    by_cases hi : i < rs.length
    · have e := List.getElem?_eq_getElem hi
      obtain ⟨b, p, t, u, e1, e2, e3⟩ := hP.2 i _ e
      refine ⟨(b, _), fun _ => ⟨by rw [e, e1], by obtain ⟨o, e, _⟩ := e2; exact Heap.lt_size e, e2.at fun o q => k2 b o q, p, t, u, e3, rfl⟩⟩
    · exact ⟨(0, #[]), fun q => absurd q hi⟩
  let Ts : Nat → Addr := fun i => (hex i).choose.1
  let vals : Nat → Array Value := fun i => (hex i).choose.2
  have hT : ∀ i, i < rs.length → rs[i]? = some (.ref (Ts i)) ∧ Ts i < h₁.objs.size ∧ h2.IsTuple (Ts i) (vals i) ∧ ∃ p t u, ps[i]? = some p ∧ vals i = #[.int p.1 t, .int p.2 u] := fun i => (hex i).choose_spec
  have W := (WalksU.listOfTuples (prog := prog) (w := w) hh h₁.objs.size l (Nat.ne_of_lt hlt) rs.toArray Ts vals (fun j hj => by have := (hT j (by simpa using hj)).1; simpa using this) (fun j hj => Nat.ne_of_lt (hT j (by simpa using hj)).2.1)).bound
  have F := feedPair (g := hideAll h2 [h₁.objs.size]) W hh (hid_or fun b hb => by
    simp only [List.mem_cons, List.mem_map, List.mem_range, List.size_toArray] at hb
    rcases hb with rfl | rfl | ⟨j, hj, rfl⟩
    · exact ⟨_, hoi⟩
    · exact ⟨_, hol⟩
    · obtain ⟨o, e, _⟩ := (hT j hj).2.2.1
      exact ⟨o, e⟩) (fun i h st b hb => by
    rw [List.mem_singleton.mp hb]
    obtain ⟨⟨o, e, _⟩, _⟩ := st
    exact ⟨o, e⟩) (fun i v hv => by
    obtain ⟨hi, rfl⟩ := hv
    obtain ⟨p, t, u, _, e⟩ := (hT i (by simpa using hi)).2.2.2
    exact ⟨_, _, e⟩) x y px py pt kk
  refine SrcP.mk F ⟨hit, hl2, fun j hj => (hT j (by simpa using hj)).2.2.1⟩ (Nat.le_trans hsz (Nat.le_of_lt (Heap.lt_size hoi))) (fresh_sub (k.trans k2) fun b hb => by rw [List.mem_singleton.mp hb]; exact hsz) (fun b hb => by rw [List.mem_singleton.mp hb]; exact ⟨_, hoi⟩) (by rw [List.size_toArray]; exact hP.1) fun i bs _ hb => ?_
  obtain ⟨a, b, e, hi, e2⟩ := hb
  obtain ⟨p, t, u, e3, e4⟩ := (hT i (by simpa using hi)).2.2.2
  rw [← e2] at e4
  obtain ⟨rfl, rfl⟩ : a = .int p.1 t ∧ b = .int p.2 u := by simpa using congrArg Array.toList e4
  exact ⟨_, _, e, p, t, u, e3, rfl, rfl⟩
theorem all : Say c.1 c.2.1 c.2.2.1 c.2.2.2.1 c.2.2.2.2.1 c.2.2.2.2.2.1 c.2.2.2.2.2.2.1 c.2.2.2.2.2.2.2.1 c.2.2.2.2.2.2.2.2.1 c.2.2.2.2.2.2.2.2.2 := by
  have h := spec_c
  unfold prog w A E s h₁ tk₁ l rs ps at h
  exact h
end Nsrcpairs
theorem src_pairs {prog : Program} {w : World} {A : Around} {E : Value → Shared → Prop} {s : Shared} {h₁ : Heap} {tk₁ : Nat} {l : Addr} {rs : List Value} {ps : List (Int × Int)} (hh : A.handled = none) (k : Sub s.heap h₁) (hsz : s.heap.objs.size ≤ h₁.objs.size) (hl : h₁.IsList l rs.toArray) (hP : PairsAre h₁ rs ps) (x y : Str) (px py pt : Pos) (kk : Nat) :
    wpAny (model prog w) A (pyIter (.ref l)) (SrcP prog w A s (.Tuple [.Name x px, .Name y py] kk pt) ps.length (BPairs x y ps)) E { s with heap := h₁, toks := tk₁ } := by
  exact of_pick Nsrcpairs.ne (fun v => Nsrcpairs.Say v.1 v.2.1 v.2.2.1 v.2.2.2.1 v.2.2.2.2.1 v.2.2.2.2.2.1 v.2.2.2.2.2.2.1 v.2.2.2.2.2.2.2.1 v.2.2.2.2.2.2.2.2.1 v.2.2.2.2.2.2.2.2.2) Nsrcpairs.all (prog, w, A, E, s, h₁, tk₁, l, rs, ps) hh k hsz hl hP x y px py pt kk
section
variable {prog : Program} {w : World} {A : Around} {E : Value → Shared → Prop}
theorem BList.tg {x : Str} {vs : List Value} : ∀ i bs, BList x vs i bs → bs.map (·.1) = [x] := fun _ _ ⟨_, e, _⟩ => e ▸ rfl
theorem BRange.tg {x : Str} {a : Int} : ∀ i bs, BRange x a i bs → bs.map (·.1) = [x] := fun _ _ ⟨_, e, _⟩ => e ▸ rfl
theorem BEnum.tg {x y : Str} {vs : List Value} : ∀ i bs, BEnum x y vs i bs → bs.map (·.1) = [x, y] := fun _ _ ⟨_, _, e, _⟩ => e ▸ rfl
theorem BZip.tg {x y : Str} {xs ys : List Value} : ∀ i bs, BZip x y xs ys i bs → bs.map (·.1) = [x, y] := fun _ _ ⟨_, _, e, _⟩ => e ▸ rfl
theorem BPairs.tg {x y : Str} {ps : List (Int × Int)} : ∀ i bs, BPairs x y ps i bs → bs.map (·.1) = [x, y] := fun _ _ ⟨_, _, e, _⟩ => e ▸ rfl
/-- the names of a comprehension's block -/
def Vb (scope : Scope) (cl : List (Str × Addr)) (C : Addr) (env : Env) (m : Str → Option Value) (bs : List (Str × Value)) (h : Heap) : Prop :=
  ∃ M, Vw (blockEnv scope cl C env) h M ∧ (∀ p ∈ bs, M p.1 = some p.2) ∧ ∀ y, scope.names.lookup y = some .free → M y = m y
theorem Vb.keeps {scope : Scope} {cl : List (Str × Addr)} {C : Addr} {env : Env} {m : Str → Option Value} {bs : List (Str × Value)} {h h' : Heap} (V : Vb scope cl C env m bs h) (k : Sub h h') : Vb scope cl C env m bs h' :=
  let ⟨M, a, b⟩ := V; ⟨M, a.keeps k, b⟩
theorem stored_other {env : Env} {y : Str} : ∀ (bs : List (Str × Value)) (m : Str → Option Value), y ∉ bs.map (·.1) → Stored env m bs y = m y
  | [], _, _ => rfl
  | (x, v) :: r, m, h => by
    rw [List.map_cons, List.mem_cons, not_or] at h
    show Stored env (upd m x v) r y = m y
    rw [stored_other r _ h.2, upd_ne h.1]
theorem stored_in {env : Env} : ∀ (bs : List (Str × Value)) (m : Str → Option Value), (bs.map (·.1)).Nodup → ∀ p ∈ bs, Stored env m bs p.1 = some p.2
  | [], _, _, _, h => by cases h
  | (x, v) :: r, m, hn, p, h => by
    rw [List.map_cons, List.nodup_cons] at hn
    show Stored env (upd m x v) r p.1 = some p.2
    rcases List.mem_cons.mp h with rfl | h
    · rw [stored_other r _ hn.1, upd_self]
    · exact stored_in r _ hn.2 p h
theorem Vb.of {scope : Scope} {cl : List (Str × Addr)} {C : Addr} {env : Env} {m : Str → Option Value} {bs : List (Str × Value)} {h : Heap} (V : Vw (blockEnv scope cl C env) h (Stored (blockEnv scope cl C env) (blockMap scope env m) bs)) (hnd : (bs.map (·.1)).Nodup)
    (ht : ∀ x ∈ bs.map (·.1), scope.names.lookup x = some .local ∨ scope.names.lookup x = some .cell) : Vb scope cl C env m bs h := by
  refine ⟨_, V, stored_in _ _ hnd, fun y hy => ?_⟩
  rw [stored_other _ _ fun q => by rcases ht y q with e | e <;> rw [hy] at e <;> cases e]
  unfold blockMap
  rw [hy]
  simp
/-- a list comprehension of one clause -/
theorem LCs {s : Shared} {elt target iter : PySem.Expr} {ifs : List PySem.Expr} {scope : Scope} {cl : List (Str × Addr)} {env : Env} {m : Str → Option Value} {Fin : Addr → Shared → Prop} {n : Nat} {B : Nat → List (Str × Value) → Prop}
    (targets : List Str) (J : Nat → List Value → Heap → Prop) (V : Vw env s.heap m) (hn : n ≤ sizeLine)
    (hB : ∀ i bs, B i bs → bs.map (·.1) = targets) (htg : ∀ x ∈ targets, scope.names.lookup x = some .local ∨ scope.names.lookup x = some .cell) (htn : targets.Nodup)
    (src : wpAny (model prog w) A (eval iter env) (fun xv s₁ => wpAny (model prog w) A (pyIter xv) (SrcP prog w A s target n B) E s₁) E s)
    (J0 : ∀ G, Sub s.heap G → J 0 [] G)
    (turn : ∀ C i ys G (s₃ : Shared) bs, s.heap.objs.size ≤ C → i < n → B i bs → J i ys G → Sub s.heap G → Sub G s₃.heap → Vb scope cl C env m bs s₃.heap → (AllBare s.gens → AllBare s₃.gens) →
      CTests prog w A ifs (blockEnv scope cl C env) (fun ok s₄ => ∃ h' gs tk, s₄ = { s₃ with heap := h', gens := gs, toks := tk } ∧ Grew s₃ h' gs ∧
        if ok = true then wpAny (model prog w) A (eval elt (blockEnv scope cl C env)) (EltPost J i ys G s₃) (fun _ _ => False) s₄ else J (i + 1) ys G) s₃)
    (fin : ∀ D ys G h' gs tk, J n ys G → Sub s.heap G → Sub G h' → G.get? D = none → s.heap.get? D = none → DL h' D ys → Sub s.heap h' → Vw env h' m → (AllBare s.gens → AllBare gs) → Fin D { s with heap := h', gens := gs, toks := tk }) :
    wpAny (model prog w) A (eval iter env) (fun xv s₁ => wpAny (model prog w) A (pyIter xv) (fun it s₂ => CRest prog w A elt target ifs scope cl env m Fin it s₂) E s₁) E s := by
  refine wpAny_mono src (fun xv s₁ h₁ => wpAny_mono h₁ (fun it s₂ h₂ => ?_) fun _ _ z => z) fun _ _ z => z
  obtain ⟨I, wr, St, h₂, tk₂, rfl, rfl, hsz, hsub, hwr, hst, Fd⟩ := h₂
  have hs2 : Sub s.heap h₂ := hsub.trans (hide_sub _ _)
  have hfr : ∀ b o, s.heap.get? b = some o → b ∉ wr := fun b o e q => by
    have := hsub b o e
    rw [hideAll_none _ q] at this; cases this
  refine ⟨I, _, wr, n, B, St, targets, J, rfl, Fd, hn, hst, Sub.refl _, hwr, V.keeps hs2, ⟨?_, fun x d e => ?_⟩, hB, htg, J0 _ hsub, fun C i ys G s₃ bs hC hi hb hJ hG hGs V₃ bare => ?_, fun D ys G h' gs tk hJ hG hGh hD hD2 hDL old V' bare => ?_⟩
  · obtain ⟨_, ⟨o, _, _, ho, _⟩, _⟩ := V.ns
    exact hfr _ o ho
  · obtain ⟨o, ho, _⟩ := V.cell x d e
    exact hfr _ o ho
  · exact turn C i ys G s₃ bs (Nat.le_trans hsz hC) hi hb hJ (hsub.trans hG) hGs (Vb.of V₃ (by rw [hB i bs hb]; exact htn) (by rw [hB i bs hb]; exact htg)) bare
  · have hDs : s.heap.get? D = none := by
      cases e : s.heap.get? D with
      | none => rfl
      | some o => have := hs2 D o e; rw [hD2] at this; cases this
    exact fin D ys G h' gs tk hJ (hsub.trans hG) hGh hD hDs hDL (fun b o e => old b o (hs2 b o e) (hfr b o e)) V' bare
end
end RS
end PartL1

section PartL2
open PySem PySem.W PyProof.Rows PySem.Calls
set_option Elab.async false
set_option maxRecDepth 100000
namespace RS
theorem BlockOk.of {scope : Scope} {env : Env} {cl : List (Str × Addr)} (hnd : (scope.names.map (·.1)).Nodup) (h : ∀ p ∈ cl, env.cells.lookup p.1 = some p.2 ∧ scope.names.lookup p.1 = some .free) : BlockOk scope env cl :=
  ⟨hnd, fun _ _ e => h _ (mem_of_lookup e)⟩
theorem CRest.mono {prog : Program} {w : World} {A : Around} {elt target : PySem.Expr} {ifs : List PySem.Expr} {scope : Scope} {cl : List (Str × Addr)} {env : Env} {m : Str → Option Value} {Fin Fin' : Addr → Shared → Prop} {it : Value} {s₂ : Shared} (h : CRest prog w A elt target ifs scope cl env m Fin it s₂)
    (hf : ∀ D s', Fin D s' → Fin' D s') : CRest prog w A elt target ifs scope cl env m Fin' it s₂ := by
  obtain ⟨I, g, fp, n, B, St, targets, J, a1, a2, a3, a4, a5, a6, a7, a8, a9, a10, a11, a12, fin⟩ := h
  exact ⟨I, g, fp, n, B, St, targets, J, a1, a2, a3, a4, a5, a6, a7, a8, a9, a10, a11, a12, fun D ys G h' gs tk b1 b2 b3 b4 b5 b6 b7 b8 b9 => hf _ _ (fin D ys G h' gs tk b1 b2 b3 b4 b5 b6 b7 b8 b9)⟩
/-- a comprehension stored under a local name, in a frame that is followed -/
theorem SitA {prog : Program} {w : World} {A : Around} {E : Value → Shared → Prop} {s : Shared} {elt target iter : PySem.Expr} {ifs : List PySem.Expr} {scope : Scope} {cl : List (Str × Addr)} {env : Env} {m : Str → Option Value} {pos : Pos} {xs : List (Addr × Obj)} {G : Heap}
    {y : Str} {py spos : Pos} {Q : Flow → Shared → Prop} (S : Sit env xs G s.heap m) (hsw : swapsWith (.ListComp elt [⟨target, iter, ifs, 0⟩] scope pos) (some (.Name y py)) spos.line env = pure true)
    (hclos : closureFor scope env = pure cl) (hkind : scope.kind = .function) (ok : BlockOk scope env cl) (hke : env.scope.kind = .function) (hy : env.kindOf y = some .local) (hcy : env.cells.lookup y = none)
    (h : wpAny (model prog w) A (eval iter env) (fun xv s₁ => wpAny (model prog w) A (pyIter xv) (fun it s₂ => CRest prog w A elt target ifs scope cl env m (fun D s' => Sub s.heap s'.heap ∧ (∀ G' h' tk, Sit env xs G' h' (upd m y (.ref D)) → Sub G G' →
      (∀ b o, s.heap.get? b = none → s'.heap.get? b = some o → G'.get? b = some o) → Q .next { s' with heap := h', toks := tk })) it s₂) E s₁) E s)
    (hs : ∀ x, foldedSetIterable iter env x = pure x := by intro _; rfl) :
    wpAny (model prog w) A (exec (.Assign [.Name y py] (.ListComp elt [⟨target, iter, ifs, 0⟩] scope pos) spos) env) Q E s := by
  refine LCA (m := m) hsw hclos hkind ok hke hy hcy (wpAny_mono h (fun xv s₁ h₁ => wpAny_mono h₁ (fun it s₂ h₂ => ?_) fun _ _ z => z) fun _ _ z => z) hs
  refine CRest.mono h₂ fun D s' q h' tk V' k => ?_
  obtain ⟨k1, q⟩ := q
  obtain ⟨S', g1, g2⟩ := S.after (h' := h') (fun b o hb e => k b o hb (k1 b o e)) V'
  refine q _ h' tk S' g1 fun b o e1 e2 => g2 b o e1 (k b o (fun q => ?_) e2)
  obtain ⟨_, ⟨o, _, _, ho, _⟩, _⟩ := S.v.ns
  rw [q, ho] at e1; cases e1
theorem none_of_sub {h h' : Heap} {b : Addr} (k : Sub h h') (e : h'.get? b = none) : h.get? b = none := by
  cases q : h.get? b with
  | none => rfl
  | some o => rw [k b o q] at e; cases e
theorem Grew.refl (s : Shared) : Grew s s.heap s.gens := ⟨Sub.refl _, id⟩
theorem carriedApp {vs : List Value} {ds : List PyData} (h : CarriedAll vs ds) {v : Value} {d : PyData} (h2 : Carried v d) : CarriedAll (vs ++ [v]) (ds ++ [d]) := by
  induction h with
  | nil => exact .cons h2 .nil
  | cons x _ ih => exact .cons x ih
theorem ints_of_carried {vs : List Value} {ns : List Int} (h : CarriedAll vs (ns.map PyData.int)) : IntsAre vs ns := by
  induction ns generalizing vs with
  | nil => cases h; exact .nil
  | cons n ns ih =>
    cases h with
    | cons a r =>
      cases a with
      | int _ t => exact .cons _ t (ih r)
theorem carried_of_ints {vs : List Value} {ns : List Int} (h : IntsAre vs ns) : CarriedAll vs (ns.map PyData.int) := by
  induction h with
  | nil => exact .nil
  | cons k t _ ih => exact .cons (.int _ t) ih
section
variable {prog : Program} {w : World} {A : Around} {E : Value → Shared → Prop}
theorem ctests_nil {cenv : Env} {K : Bool → Shared → Prop} {s : Shared} (h : K true s) : CTests prog w A [] cenv K s := by
  unfold CTests
  rw [List.forIn_nil]
  exact wpAny_pure h
theorem ctests_one {c : PySem.Expr} {cenv : Env} {K : Bool → Shared → Prop} {s : Shared} (h : wpAny (model prog w) A (PySem.isTrue c cenv (eval c cenv)) K (fun _ _ => False) s) : CTests prog w A [c] cenv K s := by
  unfold CTests
  rw [List.forIn_cons]
  simp only [if_true]
  refine wpAny_bind (wpAny_bind (wpAny_mono h (fun ok s' q => wpAny_pure ?_) fun _ _ z => z))
  show wpAny _ _ (forIn [] ok _) _ _ _
  rw [List.forIn_nil]
  exact wpAny_pure q

variable {s : Shared} {elt target iter : PySem.Expr} {scope : Scope} {cl : List (Str × Addr)} {env : Env} {m : Str → Option Value} {Fin : Addr → Shared → Prop} {n : Nat} {B : Nat → List (Str × Value) → Prop}
/-- what an evaluation that makes things leaves -/
def Post (s₃ : Shared) (P : Value → Heap → Prop) (y : Value) (s₅ : Shared) : Prop := ∃ h' gs tk, s₅ = { s₃ with heap := h', gens := gs, toks := tk } ∧ Grew s₃ h' gs ∧ P y h'
def PostB (s₃ : Shared) (b : Bool) (ok : Bool) (s₅ : Shared) : Prop := ok = b ∧ ∃ h' gs tk, s₅ = { s₃ with heap := h', gens := gs, toks := tk } ∧ Grew s₃ h' gs

/-- elements without a test -/
theorem LC0 (targets : List Str) (J : Nat → List Value → Heap → Prop) (P : Nat → List Value → Heap → Shared → Value → Heap → Prop) (V : Vw env s.heap m) (hn : n ≤ sizeLine)
    (hB : ∀ i bs, B i bs → bs.map (·.1) = targets) (htg : ∀ x ∈ targets, scope.names.lookup x = some .local ∨ scope.names.lookup x = some .cell) (htn : targets.Nodup)
    (src : wpAny (model prog w) A (eval iter env) (fun xv s₁ => wpAny (model prog w) A (pyIter xv) (SrcP prog w A s target n B) E s₁) E s)
    (J0 : ∀ G, Sub s.heap G → J 0 [] G)
    (turn : ∀ C i ys G (s₃ : Shared) bs, s.heap.objs.size ≤ C → i < n → B i bs → J i ys G → Sub s.heap G → Sub G s₃.heap → Vb scope cl C env m bs s₃.heap → (AllBare s.gens → AllBare s₃.gens) →
      wpAny (model prog w) A (eval elt (blockEnv scope cl C env)) (Post s₃ (P i ys G s₃)) (fun _ _ => False) s₃)
    (next : ∀ i ys G s₃ y h' G', i < n → J i ys G → P i ys G s₃ y h' → Sub s.heap G → Sub G s₃.heap → Sub s₃.heap h' → Sub G G' → (∀ b o, s₃.heap.get? b = none → h'.get? b = some o → G'.get? b = some o) → J (i + 1) (ys ++ [y]) G')
    (fin : ∀ D ys G h' gs tk, J n ys G → Sub s.heap G → Sub G h' → G.get? D = none → s.heap.get? D = none → DL h' D ys → Sub s.heap h' → Vw env h' m → (AllBare s.gens → AllBare gs) → Fin D { s with heap := h', gens := gs, toks := tk }) :
    wpAny (model prog w) A (eval iter env) (fun xv s₁ => wpAny (model prog w) A (pyIter xv) (fun it s₂ => CRest prog w A elt target [] scope cl env m Fin it s₂) E s₁) E s := by
  refine LCs targets J V hn hB htg htn src J0 (fun C i ys G s₃ bs hC hi hb hJ hG hGs V₃ bare => ctests_nil ⟨s₃.heap, s₃.gens, s₃.toks, rfl, Grew.refl s₃, ?_⟩) fin
  simp only [if_true]
  refine wpAny_mono (turn C i ys G s₃ bs hC hi hb hJ hG hGs V₃ bare) (fun y s₅ q => ?_) fun _ _ z => z
  obtain ⟨h', gs, tk, rfl, gr, hp⟩ := q
  exact ⟨h', gs, tk, rfl, gr, fun G' hG' hnew => next i ys G s₃ y h' G' hi hJ hp hG hGs gr.sub hG' hnew⟩
/-- plain values, without a test -/
theorem LCc (targets : List Str) (d : Nat → PyData) (V : Vw env s.heap m) (hn : n ≤ sizeLine)
    (hB : ∀ i bs, B i bs → bs.map (·.1) = targets) (htg : ∀ x ∈ targets, scope.names.lookup x = some .local ∨ scope.names.lookup x = some .cell) (htn : targets.Nodup)
    (src : wpAny (model prog w) A (eval iter env) (fun xv s₁ => wpAny (model prog w) A (pyIter xv) (SrcP prog w A s target n B) E s₁) E s)
    (turn : ∀ C i (s₃ : Shared) bs, s.heap.objs.size ≤ C → i < n → B i bs → Sub s.heap s₃.heap → Vb scope cl C env m bs s₃.heap → (AllBare s.gens → AllBare s₃.gens) →
      wpAny (model prog w) A (eval elt (blockEnv scope cl C env)) (Post s₃ (fun y _ => Carried y (d i))) (fun _ _ => False) s₃)
    (fin : ∀ D ys h' gs tk, CarriedAll ys ((List.range n).map d) → s.heap.get? D = none → DL h' D ys → Sub s.heap h' → Vw env h' m → (AllBare s.gens → AllBare gs) → Fin D { s with heap := h', gens := gs, toks := tk }) :
    wpAny (model prog w) A (eval iter env) (fun xv s₁ => wpAny (model prog w) A (pyIter xv) (fun it s₂ => CRest prog w A elt target [] scope cl env m Fin it s₂) E s₁) E s :=
  LC0 targets (fun i ys _ => CarriedAll ys ((List.range i).map d)) (fun i _ _ _ y _ => Carried y (d i)) V hn hB htg htn src (fun _ _ => .nil)
    (fun C i ys G s₃ bs hC hi hb _ hG hGs V₃ bare => turn C i s₃ bs hC hi hb (hG.trans hGs) V₃ bare)
    (fun i ys G s₃ y h' G' _ hJ hp _ _ _ _ _ => by rw [List.range_succ, List.map_append]; exact carriedApp hJ hp)
    (fun D ys G h' gs tk hJ _ _ _ hD hDL k V' bare => fin D ys h' gs tk hJ hD hDL k V' bare)
/-- plain values, with a test -/
theorem LCf {c : PySem.Expr} (targets : List Str) (p : Nat → Bool) (d : Nat → PyData) (V : Vw env s.heap m) (hn : n ≤ sizeLine)
    (hB : ∀ i bs, B i bs → bs.map (·.1) = targets) (htg : ∀ x ∈ targets, scope.names.lookup x = some .local ∨ scope.names.lookup x = some .cell) (htn : targets.Nodup)
    (src : wpAny (model prog w) A (eval iter env) (fun xv s₁ => wpAny (model prog w) A (pyIter xv) (SrcP prog w A s target n B) E s₁) E s)
    (test : ∀ C i (s₃ : Shared) bs, s.heap.objs.size ≤ C → i < n → B i bs → Sub s.heap s₃.heap → Vb scope cl C env m bs s₃.heap → (AllBare s.gens → AllBare s₃.gens) →
      wpAny (model prog w) A (PySem.isTrue c (blockEnv scope cl C env) (eval c (blockEnv scope cl C env))) (PostB s₃ (p i)) (fun _ _ => False) s₃)
    (turn : ∀ C i (s₃ : Shared) bs, s.heap.objs.size ≤ C → i < n → p i = true → B i bs → Sub s.heap s₃.heap → Vb scope cl C env m bs s₃.heap → (AllBare s.gens → AllBare s₃.gens) →
      wpAny (model prog w) A (eval elt (blockEnv scope cl C env)) (Post s₃ (fun y _ => Carried y (d i))) (fun _ _ => False) s₃)
    (fin : ∀ D ys h' gs tk, CarriedAll ys (((List.range n).filter p).map d) → s.heap.get? D = none → DL h' D ys → Sub s.heap h' → Vw env h' m → (AllBare s.gens → AllBare gs) → Fin D { s with heap := h', gens := gs, toks := tk }) :
    wpAny (model prog w) A (eval iter env) (fun xv s₁ => wpAny (model prog w) A (pyIter xv) (fun it s₂ => CRest prog w A elt target [c] scope cl env m Fin it s₂) E s₁) E s := by
  refine LCs targets (fun i ys _ => CarriedAll ys (((List.range i).filter p).map d)) V hn hB htg htn src (fun _ _ => .nil) (fun C i ys G s₃ bs hC hi hb hJ hG hGs V₃ bare => ctests_one ?_)
    (fun D ys G h' gs tk hJ _ _ _ hD hDL k V' bare => fin D ys h' gs tk hJ hD hDL k V' bare)
  refine wpAny_mono (test C i s₃ bs hC hi hb (hG.trans hGs) V₃ bare) (fun ok s₄ q => ?_) fun _ _ z => z
  obtain ⟨rfl, h', gs, tk, rfl, gr⟩ := q
  refine ⟨h', gs, tk, rfl, gr, ?_⟩
  cases hp : p i with
  | false =>
    simp only [Bool.false_eq_true, if_false]
    show CarriedAll _ _
    rw [List.range_succ, List.filter_append]
    simpa [hp] using hJ
  | true =>
    simp only [if_true]
    refine wpAny_mono (turn C i { s₃ with heap := h', gens := gs, toks := tk } bs hC hi hp hb ((hG.trans hGs).trans gr.sub) (V₃.keeps gr.sub) (fun z => gr.bare (bare z))) (fun y s₅ q => ?_) fun _ _ z => z
    obtain ⟨h2, gs2, tk2, rfl, gr2, hc⟩ := q
    refine ⟨h2, gs2, tk2, rfl, ⟨gr.sub.trans gr2.sub, fun z => gr2.bare (gr.bare z)⟩, fun G' _ _ => ?_⟩
    show CarriedAll _ _
    rw [List.range_succ, List.filter_append]
    simpa [hp] using carriedApp hJ hc
/-- lists of plain values -/
def RowsC (h : Heap) (rs : List Value) (dss : List (List PyData)) : Prop := rs.length = dss.length ∧ ∀ (i : Nat) (v : Value), rs[i]? = some v → ∃ (b : Addr) (ws : List Value) (ds : List PyData), v = .ref b ∧ DL h b ws ∧ dss[i]? = some ds ∧ CarriedAll ws ds
theorem RowsC.keeps {h h' : Heap} {rs : List Value} {dss : List (List PyData)} (P : RowsC h rs dss) (k : Sub h h') : RowsC h' rs dss :=
  ⟨P.1, fun i v e => let ⟨b, ws, ds, e1, e2, e3⟩ := P.2 i v e; ⟨b, ws, ds, e1, e2.at fun o q => k b o q, e3⟩⟩
theorem app_get {α : Type} {xs : List α} {x : α} {i : Nat} {v : α} (h : (xs ++ [x])[i]? = some v) : xs[i]? = some v ∨ (i = xs.length ∧ v = x) := by
  rcases Nat.lt_trichotomy i xs.length with q | q | q
  · rw [List.getElem?_append_left q] at h; exact .inl h
  · subst q
    rw [List.getElem?_append_right (Nat.le_refl _)] at h
    simp at h
    exact .inr ⟨rfl, h.symm⟩
  · rw [List.getElem?_append_right (Nat.le_of_lt q)] at h
    have : i - xs.length = (i - xs.length - 1) + 1 := by lia
    rw [this] at h
    simp at h
theorem RowsC.app {h : Heap} {rs : List Value} {dss : List (List PyData)} (P : RowsC h rs dss) {b : Addr} {ws : List Value} {ds : List PyData} (hb : DL h b ws) (hw : CarriedAll ws ds) : RowsC h (rs ++ [.ref b]) (dss ++ [ds]) := by
  refine ⟨by simp [P.1], fun i v e => ?_⟩
  rcases app_get e with q | ⟨rfl, rfl⟩
  · obtain ⟨b', ws', ds', e1, e2, e3, e4⟩ := P.2 i v q
    exact ⟨b', ws', ds', e1, e2, by rw [List.getElem?_append_left (List.getElem?_eq_some_iff.mp e3).1]; exact e3, e4⟩
  · exact ⟨b, ws, ds, rfl, hb, by rw [P.1, List.getElem?_append_right (Nat.le_refl _)]; simp, hw⟩
/-- new lists of plain values, without a test -/
theorem LCr (targets : List Str) (d : Nat → List PyData) (V : Vw env s.heap m) (hn : n ≤ sizeLine)
    (hB : ∀ i bs, B i bs → bs.map (·.1) = targets) (htg : ∀ x ∈ targets, scope.names.lookup x = some .local ∨ scope.names.lookup x = some .cell) (htn : targets.Nodup)
    (src : wpAny (model prog w) A (eval iter env) (fun xv s₁ => wpAny (model prog w) A (pyIter xv) (SrcP prog w A s target n B) E s₁) E s)
    (turn : ∀ C i (s₃ : Shared) bs, s.heap.objs.size ≤ C → i < n → B i bs → Sub s.heap s₃.heap → Vb scope cl C env m bs s₃.heap → (AllBare s.gens → AllBare s₃.gens) →
      wpAny (model prog w) A (eval elt (blockEnv scope cl C env)) (Post s₃ (fun y h' => ∃ b ws, y = .ref b ∧ s₃.heap.get? b = none ∧ DL h' b ws ∧ CarriedAll ws (d i))) (fun _ _ => False) s₃)
    (fin : ∀ D ys h' gs tk, (∀ G', (∀ b o, s.heap.get? b = none → h'.get? b = some o → G'.get? b = some o) → RowsC G' ys ((List.range n).map d)) → s.heap.get? D = none → DL h' D ys → Sub s.heap h' → Vw env h' m → (AllBare s.gens → AllBare gs) → Fin D { s with heap := h', gens := gs, toks := tk }) :
    wpAny (model prog w) A (eval iter env) (fun xv s₁ => wpAny (model prog w) A (pyIter xv) (fun it s₂ => CRest prog w A elt target [] scope cl env m Fin it s₂) E s₁) E s :=
  LC0 targets (fun i ys G => ∀ G', (∀ b o, s.heap.get? b = none → G.get? b = some o → G'.get? b = some o) → RowsC G' ys ((List.range i).map d)) (fun i _ _ s₃ y h' => ∃ b ws, y = .ref b ∧ s₃.heap.get? b = none ∧ DL h' b ws ∧ CarriedAll ws (d i)) V hn hB htg htn src (fun _ _ _ _ => ⟨rfl, fun i v e => by simp at e⟩)
    (fun C i ys G s₃ bs hC hi hb _ hG hGs V₃ bare => turn C i s₃ bs hC hi hb (hG.trans hGs) V₃ bare)
    (fun i ys G s₃ y h' G' _ hJ hp hsG hGs _ hG' hnew => by
      obtain ⟨b, ws, rfl, hb, hDL, hw⟩ := hp
      intro G2 hG2
      rw [List.range_succ, List.map_append]
      have hbs : s.heap.get? b = none := none_of_sub (hsG.trans hGs) hb
      exact (hJ G2 fun b o e1 e2 => hG2 b o e1 (hG' b o e2)).app (hDL.at fun o e => hG2 b o hbs (hnew b o hb e)) hw)
    (fun D ys G h' gs tk hJ _ hGh _ hD hDL k V' bare => fin D ys h' gs tk (fun G2 hG2 => hJ G2 fun b o e1 e2 => hG2 b o e1 (hGh b o e2)) hD hDL k V' bare)
theorem PairsAre.app {h : Heap} {rs : List Value} {ps : List (Int × Int)} (P : PairsAre h rs ps) {b : Addr} {p : Int × Int} {t u : Tok} (hb : h.IsTuple b #[.int p.1 t, .int p.2 u]) : PairsAre h (rs ++ [.ref b]) (ps ++ [p]) := by
  refine ⟨by simp [P.1], fun i v e => ?_⟩
  rcases app_get e with q | ⟨rfl, rfl⟩
  · obtain ⟨b', p', t', u', e1, e2, e3⟩ := P.2 i v q
    exact ⟨b', p', t', u', e1, e2, by rw [List.getElem?_append_left (List.getElem?_eq_some_iff.mp e3).1]; exact e3⟩
  · exact ⟨b, p, t, u, rfl, hb, by rw [P.1, List.getElem?_append_right (Nat.le_refl _)]; simp⟩
/-- new pairs, without a test -/
theorem LCp (targets : List Str) (d : Nat → Int × Int) (V : Vw env s.heap m) (hn : n ≤ sizeLine)
    (hB : ∀ i bs, B i bs → bs.map (·.1) = targets) (htg : ∀ x ∈ targets, scope.names.lookup x = some .local ∨ scope.names.lookup x = some .cell) (htn : targets.Nodup)
    (src : wpAny (model prog w) A (eval iter env) (fun xv s₁ => wpAny (model prog w) A (pyIter xv) (SrcP prog w A s target n B) E s₁) E s)
    (turn : ∀ C i (s₃ : Shared) bs, s.heap.objs.size ≤ C → i < n → B i bs → Sub s.heap s₃.heap → Vb scope cl C env m bs s₃.heap → (AllBare s.gens → AllBare s₃.gens) →
      wpAny (model prog w) A (eval elt (blockEnv scope cl C env)) (Post s₃ (fun y h' => ∃ b t u, y = .ref b ∧ s₃.heap.get? b = none ∧ h'.IsTuple b #[.int (d i).1 t, .int (d i).2 u])) (fun _ _ => False) s₃)
    (fin : ∀ D ys h' gs tk, (∀ G', (∀ b o, s.heap.get? b = none → h'.get? b = some o → G'.get? b = some o) → PairsAre G' ys ((List.range n).map d)) → s.heap.get? D = none → DL h' D ys → Sub s.heap h' → Vw env h' m → (AllBare s.gens → AllBare gs) → Fin D { s with heap := h', gens := gs, toks := tk }) :
    wpAny (model prog w) A (eval iter env) (fun xv s₁ => wpAny (model prog w) A (pyIter xv) (fun it s₂ => CRest prog w A elt target [] scope cl env m Fin it s₂) E s₁) E s :=
  LC0 targets (fun i ys G => ∀ G', (∀ b o, s.heap.get? b = none → G.get? b = some o → G'.get? b = some o) → PairsAre G' ys ((List.range i).map d)) (fun i _ _ s₃ y h' => ∃ b t u, y = .ref b ∧ s₃.heap.get? b = none ∧ h'.IsTuple b #[.int (d i).1 t, .int (d i).2 u]) V hn hB htg htn src (fun _ _ _ _ => ⟨rfl, fun i v e => by simp at e⟩)
    (fun C i ys G s₃ bs hC hi hb _ hG hGs V₃ bare => turn C i s₃ bs hC hi hb (hG.trans hGs) V₃ bare)
    (fun i ys G s₃ y h' G' _ hJ hp hsG hGs _ hG' hnew => by
      obtain ⟨b, t, u, rfl, hb, hT⟩ := hp
      intro G2 hG2
      rw [List.range_succ, List.map_append]
      have hbs : s.heap.get? b = none := none_of_sub (hsG.trans hGs) hb
      exact (hJ G2 fun b o e1 e2 => hG2 b o e1 (hG' b o e2)).app (p := d i) (hT.at fun o e => hG2 b o hbs (hnew b o hb e)))
    (fun D ys G h' gs tk hJ _ hGh _ hD hDL k V' bare => fin D ys h' gs tk (fun G2 hG2 => hJ G2 fun b o e1 e2 => hG2 b o e1 (hGh b o e2)) hD hDL k V' bare)
end
end RS
end PartL2

section PartP1
open PySem PySem.W PyProof.Rows PySem.Calls
namespace RS
open Builtin.Str
theorem sliceRange_one {i n : Nat} (h : i ≤ n) : sliceRange (i : Int) (n : Int) 1 = (List.range (n - i)).map (i + ·) := by
  unfold sliceRange
  by_cases hlt : (i : Int) < n
  · simp only [show (1 : Int) > 0 by decide, if_true, hlt]
    have e : (((n : Int) - i + 1 - 1) / 1).toNat = n - i := by rw [Int.ediv_one]; lia
    rw [e]
    refine List.map_congr_left fun k _ => ?_
    lia
  · simp only [show (1 : Int) > 0 by decide, if_true, hlt, if_false]
    have e : n - i = 0 := by lia
    rw [e]; rfl
theorem filterMap_from {α : Type} (a : Array α) : ∀ (d i : Nat), i + d = a.size → ((List.range d).map (i + ·)).filterMap (a[·]?) = a.toList.drop i
  | 0, i, h => by
    have : i = a.toList.length := by simpa using h
    subst this; simp
  | d + 1, i, h => by
    have hi : i < a.size := by lia
    have ih := filterMap_from a d (i + 1) (by lia)
    have e : (List.range (d + 1)).map (i + ·) = i :: (List.range d).map (i + 1 + ·) := by
      rw [List.range_succ_eq_map, List.map_cons, List.map_map]
      refine List.cons_eq_cons.mpr ⟨by lia, List.map_congr_left fun k _ => ?_⟩
      show i + (k + 1) = i + 1 + k
      lia
    rw [e, List.filterMap_cons, Array.getElem?_eq_getElem hi]
    simp only
    rw [ih]
    have hi' : i < a.toList.length := by simpa using hi
    rw [List.drop_eq_getElem_cons hi']
    simp
theorem slice_tail {x : Str} {i : Nat} {u : Option Int} (hi : i ≤ x.length) (hu : ∀ j, u = some j → (x.length : Int) ≤ j) : Txt.slice x (some (i : Int)) u = ⟨(x.cps.toList.drop i).toArray⟩ := by
  have hn : (x.length : Int) = (x.cps.size : Int) := rfl
  have e : strSliceIndices (some (i : Int)) u 1 x.length = (List.range (x.length - i)).map (i + ·) := by
    unfold strSliceIndices
    simp only [show (1 : Int) > 0 by decide, if_true]
    rw [if_neg (by lia)]
    have e1 : max 0 (min (i : Int) (x.length : Int)) = (i : Int) := by lia
    rw [e1]
    cases u with
    | none => exact sliceRange_one hi
    | some j =>
      have := hu j rfl
      simp only
      rw [if_neg (by lia)]
      have e2 : max 0 (min j (x.length : Int)) = (x.length : Int) := by lia
      rw [e2]
      exact sliceRange_one hi
  unfold Txt.slice
  rw [e]
  split
  · rename_i h
    have h0 : i = 0 := by
      simp only [List.length_map, List.length_range, Bool.and_eq_true, beq_iff_eq] at h
      have := h.2
      lia
    subst h0
    cases x; simp
  · rw [filterMap_from x.cps _ _ (by show i + (x.length - i) = x.length; lia)]
/-- n blanks, two tabs, two blanks, a letter -/
def txt (n : Nat) : Str := ⟨(List.replicate n 32 ++ [9, 9, 32, 32, 120]).toArray⟩

theorem txt_blank {n i : Nat} (h : i < n) : (txt n).cps[i]? = some 32 := by
  simp only [txt, List.getElem?_toArray]
  rw [List.getElem?_append_left (by simpa using h)]
  simp [h]
theorem txt_at {n j : Nat} : (txt n).cps[n + j]? = [9, 9, 32, 32, 120][j]? := by
  simp only [txt, List.getElem?_toArray]
  rw [List.getElem?_append_right (by simp)]
  simp
theorem txt_len (n : Nat) : (txt n).length = n + 5 := by simp [txt, Str.length]

theorem txt_slice {n i : Nat} {j : Int} (h : i ≤ n) (hj : ((n + 5 : Nat) : Int) ≤ j) : Txt.slice (txt n) (some (i : Int)) (some j) = txt (n - i) := by
  rw [slice_tail (by rw [txt_len]; lia) (fun j' e => by cases e; rw [txt_len]; exact hj)]
  show (⟨((List.replicate n 32 ++ [9, 9, 32, 32, 120]).drop i).toArray⟩ : Str) = _
  rw [List.drop_append_of_le_length (by simpa using h), List.drop_replicate]
  rfl
end RS
end PartP1

theorem RS.forgetW7 {prog : PySem.Program} {w : PySem.World} {A : PySem.Around} {env : PySem.Env} {Q : PySem.Flow → PySem.Shared → Prop} {E : PySem.Value → PySem.Shared → Prop} {s : PySem.Shared}
    (h : PySem.wpAny (PySem.model prog w) A (PySem.execs [] env) Q E s) : PySem.wpAny (PySem.model prog w) A (PySem.execs [] env) Q E s := by
  first | (walk1; fail "no") | skip
  w_top off
  exact h

section PartW7
open PySem PySem.W PyProof.Rows PySem.Calls
set_option Elab.async false
set_option maxRecDepth 100000
namespace RS
theorem Stop.go {P : Prop} (h : P) : Stop P := h
theorem News.isListAt {h₀ h : Heap} {L c : Addr} {its : Array Value} {nn : Nat} {news : List (Addr × Obj)} (N : News h₀ L h news) (hm : (c, listOf its nn) ∈ news) : h.IsList c its := ⟨_, N.get hm, rfl, nn, rfl⟩
theorem fillT7 : (fun (_ : Params → Frag) (_ : OpenLaw) => True) hd.heap_1 PySem.Challenge.rw_rs0192_01 := by
  k_fill
  trivial
local macro_rules | `(tactic| walk_at $k:str) => if ["exec For Name Attribute cons nil", "pyIter str", "InvEndG"].contains k.getString then `(tactic| (refine Stop.of ?_)) else Lean.Macro.throwUnsupported
local macro_rules | `(tactic| walk_at "call builtin:len") => `(tactic| (k_here; (with_reducible show wpAny _ _ (call (Value.builtin "len") [Value.ref _]) _ _ _); (refine len_list (News.isListAt (by assumption) (.head _)) (by simp; omega) ?_)))
local macro_rules | `(tactic| walk_at "call type:tuple") => `(tactic| (k_here; (with_reducible show wpAny _ _ (call (Value.type _) [Value.ref _]) _ _ _); k_dflt (refine' kde_tupleOf ?k1 ?k2 ?k3 ?k4 ?k5 ?_; (case k1 => assumption); (case k2 => assumption); (case k3 => exact News.isListAt (by assumption) (.head _)); (case k5 => exact rfl); (case k4 => (simp; omega)); k_whole); intro D' h' F' N' l1; k_lt l1))

/-- one sign of the blanks' front: the counts, the run of blanks, the tabs -/
def wsStep (st : List Int × Nat × Nat) (c : Nat) : List Int × Nat × Nat :=
  if c = 32 then (st.1, st.2.1 + 1, st.2.2)
  else
    let cs := if st.1.length ≤ st.2.1 then st.1 ++ List.replicate (st.2.1 - st.1.length + 1) 0 else st.1
    (cs.set st.2.1 (cs.getD st.2.1 0 + 1), 0, st.2.2 + 1)
def wsMap (x : Str) (tx : Tok) (o c : Addr) (b n nt : Nat) (t1 t2 t3 : Tok) (u : Option Value) : Str → Option Value := fun y =>
  if y = Str.ofString "count" then some (.ref c) else if y = Str.ofString "b" then some (.int (b : Int) t1) else if y = Str.ofString "n" then some (.int (n : Int) t2) else if y = Str.ofString "nt" then some (.int (nt : Int) t3)
  else if y = Str.ofString "ch" then u else if y = Str.ofString "S" then some (.str (Str.ofString " ") 288) else if y = Str.ofString "T" then some (.str (Str.ofString "\t") 289) else if y = Str.ofString "self" then some (.ref o) else if y = Str.ofString "ws" then some (.str x tx) else none
inductive wsJ (P : Params) (x : Str) (tx : Tok) (o dx : Addr) (kt : Tok) (i : Nat) (m : Str → Option Value) (nx : List (Addr × Obj)) : Prop
  | mk (c : Addr) (vs : List Value) (nn n : Nat) (t1 t2 t3 : Tok) (u : Option Value) (e0 : m = wsMap x tx o c ((x.cps.toList.take i).foldl wsStep ([], 0, 0)).2.1 n ((x.cps.toList.take i).foldl wsStep ([], 0, 0)).2.2 t1 t2 t3 u) (e1 : nx = [(c, listOf vs.toArray nn), (o, instObj 133 dx), (dx, dictOf [{ hash := PyData.keyHash P "raw", key := .str "raw" kt, val := .str x tx }] 1)]) (e2 : c ≠ o) (e3 : c ≠ dx) (e4 : IntsAre vs ((x.cps.toList.take i).foldl wsStep ([], 0, 0)).1) (e5 : ∀ d ∈ x.cps.toList.take i, d = 32 ∨ d = 9)

theorem wsMap_ch {x : Str} {tx : Tok} {o c : Addr} {b n nt : Nat} {t1 t2 t3 : Tok} {u v : Option Value} (y : Str) : (if y = Str.ofString "ch" then v else wsMap x tx o c b n nt t1 t2 t3 u y) = wsMap x tx o c b n nt t1 t2 t3 v y := by
  unfold wsMap
  by_cases h : y = Str.ofString "ch"
  · subst h
    rw [if_pos rfl, if_neg (by decide), if_neg (by decide), if_neg (by decide), if_neg (by decide), if_pos rfl]
  · rw [if_neg h]
    simp only [h, if_false]
theorem wsMap_of {x : Str} {tx : Tok} {o c : Addr} {b n nt : Nat} {m : Str → Option Value} (h1 : m (Str.ofString "count") = some (.ref c)) (h2 : ∃ t, m (Str.ofString "b") = some (.int (b : Int) t)) (h3 : ∃ t, m (Str.ofString "n") = some (.int (n : Int) t)) (h4 : ∃ t, m (Str.ofString "nt") = some (.int (nt : Int) t))
    (h5 : m (Str.ofString "S") = some (.str (Str.ofString " ") 288)) (h6 : m (Str.ofString "T") = some (.str (Str.ofString "\t") 289)) (h7 : m (Str.ofString "self") = some (.ref o)) (h8 : m (Str.ofString "ws") = some (.str x tx))
    (h9 : ∀ y, y ≠ Str.ofString "count" → y ≠ Str.ofString "b" → y ≠ Str.ofString "n" → y ≠ Str.ofString "nt" → y ≠ Str.ofString "ch" → y ≠ Str.ofString "S" → y ≠ Str.ofString "T" → y ≠ Str.ofString "self" → y ≠ Str.ofString "ws" → m y = none) :
    ∃ t1 t2 t3 u, m = wsMap x tx o c b n nt t1 t2 t3 u := by
  obtain ⟨t1, h2⟩ := h2
  obtain ⟨t2, h3⟩ := h3
  obtain ⟨t3, h4⟩ := h4
  refine ⟨t1, t2, t3, m (Str.ofString "ch"), funext fun y => ?_⟩
  unfold wsMap
  by_cases e1 : y = Str.ofString "count"
  · subst e1; rw [if_pos rfl]; exact h1
  rw [if_neg e1]
  by_cases e2 : y = Str.ofString "b"
  · subst e2; rw [if_pos rfl]; exact h2
  rw [if_neg e2]
  by_cases e3 : y = Str.ofString "n"
  · subst e3; rw [if_pos rfl]; exact h3
  rw [if_neg e3]
  by_cases e4 : y = Str.ofString "nt"
  · subst e4; rw [if_pos rfl]; exact h4
  rw [if_neg e4]
  by_cases e5 : y = Str.ofString "ch"
  · subst e5; rw [if_pos rfl]
  rw [if_neg e5]
  by_cases e6 : y = Str.ofString "S"
  · subst e6; rw [if_pos rfl]; exact h5
  rw [if_neg e6]
  by_cases e7 : y = Str.ofString "T"
  · subst e7; rw [if_pos rfl]; exact h6
  rw [if_neg e7]
  by_cases e8 : y = Str.ofString "self"
  · subst e8; rw [if_pos rfl]; exact h7
  rw [if_neg e8]
  by_cases e9 : y = Str.ofString "ws"
  · subst e9; rw [if_pos rfl]; exact h8
  rw [if_neg e9]
  exact h9 y e1 e2 e3 e4 e5 e6 e7 e8 e9
theorem wsFr_of {h₀ h : Heap} {L : Addr} {x : Str} {tx : Tok} {o c : Addr} {m : Str → Option Value} (F : Fr h₀ L h m) (b n nt : Nat) (h1 : m (Str.ofString "count") = some (.ref c)) (h2 : ∃ t, m (Str.ofString "b") = some (.int (b : Int) t)) (h3 : ∃ t, m (Str.ofString "n") = some (.int (n : Int) t)) (h4 : ∃ t, m (Str.ofString "nt") = some (.int (nt : Int) t))
    (h5 : m (Str.ofString "S") = some (.str (Str.ofString " ") 288)) (h6 : m (Str.ofString "T") = some (.str (Str.ofString "\t") 289)) (h7 : m (Str.ofString "self") = some (.ref o)) (h8 : m (Str.ofString "ws") = some (.str x tx))
    (h9 : ∀ y, y ≠ Str.ofString "count" → y ≠ Str.ofString "b" → y ≠ Str.ofString "n" → y ≠ Str.ofString "nt" → y ≠ Str.ofString "ch" → y ≠ Str.ofString "S" → y ≠ Str.ofString "T" → y ≠ Str.ofString "self" → y ≠ Str.ofString "ws" → m y = none) :
    ∃ t1 t2 t3 u, Fr h₀ L h (wsMap x tx o c b n nt t1 t2 t3 u) := by
  obtain ⟨t1, t2, t3, u, e⟩ := wsMap_of h1 h2 h3 h4 h5 h6 h7 h8 h9
  exact ⟨t1, t2, t3, u, e ▸ F⟩
theorem wsStep_tab9 (cs : List Int) (b nt : Nat) : wsStep (cs, b, nt) 9 = ((if cs.length ≤ b then cs ++ List.replicate (b - cs.length + 1) 0 else cs).set b ((if cs.length ≤ b then cs ++ List.replicate (b - cs.length + 1) 0 else cs).getD b 0 + 1), 0, nt + 1) := rfl
theorem wsBound (l : List Nat) : (l.foldl wsStep ([], 0, 0)).1.length ≤ l.length ∧ (l.foldl wsStep ([], 0, 0)).2.1 ≤ l.length := by
  have key : ∀ (l : List Nat) (st : List Int × Nat × Nat) (k : Nat), st.1.length ≤ k → st.2.1 ≤ k → (l.foldl wsStep st).1.length ≤ k + l.length ∧ (l.foldl wsStep st).2.1 ≤ k + l.length := by
    intro l
    induction l with
    | nil => intro st k h1 h2; exact ⟨h1, h2⟩
    | cons c r ih =>
      intro st k h1 h2
      rw [List.foldl_cons, List.length_cons]
      have := ih (wsStep st c) (k + 1) ?_ ?_
      · lia
      · unfold wsStep
        split
        · exact Nat.le_succ_of_le h1
        · dsimp only
          rw [List.length_set]
          split
          · rw [List.length_append, List.length_replicate]; lia
          · lia
      · unfold wsStep
        split
        · exact Nat.succ_le_succ h2
        · exact Nat.zero_le _
  have := key l ([], 0, 0) 0 (Nat.le_refl _) (Nat.le_refl _)
  lia
theorem take_snoc {a : Array Nat} {i c : Nat} (h : a[i]? = some c) : a.toList.take (i + 1) = a.toList.take i ++ [c] := by
  rw [List.take_add_one]
  have : a.toList[i]? = some c := by simpa using h
  rw [this]; rfl
theorem ws_end {h₀ h' : Heap} {L : Addr} {P : Params} {x : Str} {tx kt t1 t2 t3 : Tok} {o dx c' : Addr} {b n nt i nn : Nat} {u : Option Value} {cs : List Int} {vs : List Value} {news own : List (Addr × Obj)} {s₁ : Shared} {tk : Nat}
    (F : Fr h₀ L h' (wsMap x tx o c' b n nt t1 t2 t3 u)) (N : News h₀ L h' news) (hc : (c', listOf vs.toArray nn) ∈ news) (ho : (o, instObj 133 dx) ∈ news) (hd : (dx, dictOf [{ hash := PyData.keyHash P "raw", key := .str "raw" kt, val := .str x tx }] 1) ∈ news) (hw : ∀ p ∈ own, p ∈ news)
    (hf : ∀ p ∈ own, p.1 ≠ c') (hoff : OwnOff own [o, dx]) (h1 : c' ≠ o) (h2 : c' ≠ dx) (e : (x.cps.toList.take (i + 1)).foldl wsStep ([], 0, 0) = (cs, b, nt)) (hI : IntsAre vs cs) (hd2 : ∀ d ∈ x.cps.toList.take (i + 1), d = 32 ∨ d = 9) :
    InvEndG h₀ L (wsJ P x tx o dx kt (i + 1)) own s₁ { s₁ with heap := h', toks := tk } := by
  refine InvEndG.intro F N (nx := [(c', listOf vs.toArray nn), (o, instObj 133 dx), (dx, dictOf [{ hash := PyData.keyHash P "raw", key := .str "raw" kt, val := .str x tx }] 1)])
    ⟨c', vs, nn, n, t1, t2, t3, u, by rw [e], rfl, h1, h2, by rw [e]; exact hI, hd2⟩ (fun p hp b' hb' => ?_) (fun p hp => ?_) hw
  · rcases List.mem_cons.mp hb' with rfl | hb'
    · exact hf p hp
    · exact hoff p hp b' hb'
  · simp only [List.mem_cons, List.not_mem_nil, or_false] at hp
    rcases hp with rfl | rfl | rfl
    · exact hc
    · exact ho
    · exact hd
theorem ws_loop {prog : Program} {w : World} {A : Around} {E : Value → Shared → Prop} {s : Shared} {env : Env} {h₀ : Heap} {body : List Stmt} {Q : Flow → Shared → Prop} {P : Params} {x : Str} {tx kt t1 t2 t3 : Tok} {o dx c0 : Addr} {tp : Addr × Obj} {m : Str → Option Value}
    (hh : A.handled = none) (hx : x.cps.all (· < 128) = true)
    (F : Fr h₀ env.locals s.heap m) (N : News h₀ env.locals s.heap [(c0, listOf #[] 0), tp, (o, instObj 133 dx), (dx, dictOf [{ hash := PyData.keyHash P "raw", key := .str "raw" kt, val := .str x tx }] 1)])
    (hm : ∀ y, m y = wsMap x tx o c0 0 0 0 t1 t2 t3 none y) (hco : c0 ≠ o) (hcd : c0 ≠ dx)
    (turn : ∀ i ch c vs nn n t0 t1 t2 t3 h tk own, x.cps[i]? = some ch → (∀ d ∈ x.cps.toList.take i, d = 32 ∨ d = 9) → IntsAre vs ((x.cps.toList.take i).foldl wsStep ([], 0, 0)).1 → OwnOff own [c, o, dx] → c ≠ o → c ≠ dx →
      Fr h₀ env.locals h (wsMap x tx o c ((x.cps.toList.take i).foldl wsStep ([], 0, 0)).2.1 n ((x.cps.toList.take i).foldl wsStep ([], 0, 0)).2.2 t1 t2 t3 (some (.str ⟨#[ch]⟩ t0))) →
      News h₀ env.locals h ([(c, listOf vs.toArray nn), (o, instObj 133 dx), (dx, dictOf [{ hash := PyData.keyHash P "raw", key := .str "raw" kt, val := .str x tx }] 1)] ++ own) →
      wpAny (model prog w) A (execs body env) (InvPostG h₀ env.locals (wsJ P x tx o dx kt (i + 1)) own { s with heap := h, toks := tk } Q) E { s with heap := h, toks := tk })
    (done : ∀ m nx h tk, wsJ P x tx o dx kt x.cps.size m nx → Fr h₀ env.locals h m → News h₀ env.locals h nx → Q .next { s with heap := h, toks := tk }) :
    wpAny (model prog w) A (pyIter (.str x tx)) (fun it s₂ => LoopAtV prog w A h₀ env "ch" body Q E it s₂) E s := by
  refine wpAny_pyIter_ascii hx ?_
  have hnew : h₀.get? s.heap.objs.size = none := next_is_new F
  refine kdr_loop (news := [(c0, listOf #[] 0), (o, instObj 133 dx), (dx, dictOf [{ hash := PyData.keyHash P "raw", key := .str "raw" kt, val := .str x tx }] 1)]) (m₀ := m) (wsJ P x tx o dx kt)
    (Walks.strAscii hh s.heap.objs.size x tx) (fun _ h => h) (fun _ h => h) (fun i h ⟨oo, hi, _⟩ b hb => ?_) (fun q => ?_) (fun b hb => ?_) (fun p hp q => ?_) ⟨_, Heap.get?_push_size _ rfl, rfl, rfl⟩ (F.push _) (fun p hp => ?_) ⟨c0, [], 0, 0, t1, t2, t3, none, funext hm, rfl, hco, hcd, .nil, fun d hd => by simp at hd⟩ ?_ done
  · rw [List.mem_singleton.mp hb]; exact ⟨oo, hi⟩
  · exact absurd F.ns.lt (by rw [List.mem_singleton.mp q]; exact Nat.lt_irrefl _)
  · rw [List.mem_singleton.mp hb]; exact hnew
  · have hp' : p ∈ [(c0, listOf #[] 0), tp, (o, instObj 133 dx), (dx, dictOf [{ hash := PyData.keyHash P "raw", key := .str "raw" kt, val := .str x tx }] 1)] := by
      simp only [List.mem_cons, List.not_mem_nil, or_false] at hp ⊢
      rcases hp with h | h | h <;> simp [h]
    exact absurd (Heap.lt_size (N p hp').1) (by rw [List.mem_singleton.mp q]; exact Nat.lt_irrefl _)
  · have hp' : p ∈ [(c0, listOf #[] 0), tp, (o, instObj 133 dx), (dx, dictOf [{ hash := PyData.keyHash P "raw", key := .str "raw" kt, val := .str x tx }] 1)] := by
      simp only [List.mem_cons, List.not_mem_nil, or_false] at hp ⊢
      rcases hp with h | h | h <;> simp [h]
    exact ⟨Heap.get?_push_of_some _ (N p hp').1, (N p hp').2⟩
  · rintro i v m₁ nx h tk own hi ⟨ch, t0, hch, rfl⟩ hoff ⟨c, vs, nn, n, t1, t2, t3, u, rfl, rfl, h1, h2, hI, hd⟩ F₁ N₁
    exact turn i ch c vs nn n t0 t1 t2 t3 h tk own hch hd hI hoff h1 h2 (Fr.congr F₁ wsMap_ch) N₁

/-- a Whitespace: its counts, its last run of blanks, its tabs -/
inductive IsWs (P : Params) (g h : Heap) (o : Addr) (cs : List Int) (b nt : Nat) : Prop
  | mk (dx : Addr) (k1 k2 k3 k4 k5 : Tok) (v1 v2 v5 : Value) (t3 : Tok) (N C : Addr) (vs : List Value) (t : Tok) (hg : ∀ a ∈ [o, dx, N, C], g.get? a = none) (e1 : h.get? o = some (instObj 133 dx))
    (e2 : h.get? dx = some (dictOf [⟨PyData.keyHash P "raw", .str "raw" k1, v1⟩, ⟨PyData.keyHash P "n", .str "n" k2, v2⟩, ⟨PyData.keyHash P "nt", .str "nt" k3, .int (nt : Int) t3⟩, ⟨PyData.keyHash P "norm", .str "norm" k4, .ref N⟩, ⟨PyData.keyHash P "is_simple", .str "is_simple" k5, v5⟩] 5))
    (e3 : h.get? N = some { cls := .type "tuple", data := .seq #[.ref C, .int (b : Int) t] }) (e4 : h.get? C = some { cls := .type "tuple", data := .seq vs.toArray }) (hI : IntsAre vs cs)

namespace In
abbrev V : Type := (World) × (Nat) × (Option (List Env)) × (Option (List Code)) × (Nat) × (Shared) × (Program) × (List Str) × (ExcName → Option Value) × (Str → Option Value) × (Str → Option Value) × (Heap) × (Value → Shared → Prop) × (Value → Shared → Prop) × (Str) × (Tok) × (Addr) × (Addr)
def Stmt (w : World) (dA : Nat) (fA : Option (List Env)) (gA : Option (List Code)) (uA : Nat) (s : Shared) (p : Program) (loose : List Str) (mean : ExcName → Option Value) (mg : Str → Option Value) (mb : Str → Option Value) (g : Heap) (Q : Value → Shared → Prop) (E : Value → Shared → Prop) (x : Str) (tx : Tok) (o : Addr) (dx : Addr) : Prop := ∀ (X : (hd.heap_1 w.params).In g) (T : Top p loose mean mg mb g) (hk : ∀ b o, g.get? b = some o → s.heap.get? b = some o) (hgo : g.get? o = none) (hgd : g.get? dx = none) (hod : dx < o) (hroom : dA + 5 < recursionLimit) (hx : x.cps.all (· < 128) = true) (hx3 : ∀ c ∈ x.cps.toList, c = 32 ∨ c = 9 ∨ c = 120) (hxl : x.cps.size ≤ 1000) (ho : s.heap.get? o = some (instObj 133 dx)) (hdx : s.heap.get? dx = some (dictOf [] 0)) (hq : ∀ i h' tk, (∀ d ∈ x.cps.toList.take i, d = 32 ∨ d = 9) → (∀ ch, x.cps[i]? = some ch → ch ≠ 32 ∧ ch ≠ 9) → (∀ b o', b ≠ o → b ≠ dx → s.heap.get? b = some o' → h'.get? b = some o') →
      IsWs w.params g h' o ((x.cps.toList.take i).foldl wsStep ([], 0, 0)).1 ((x.cps.toList.take i).foldl wsStep ([], 0, 0)).2.1 ((x.cps.toList.take i).foldl wsStep ([], 0, 0)).2.2 → Q .none { s with heap := h', toks := tk }),
    codeAny (model PG w) (Around.mk none dA fA gA uA) (.call (.ref 88) ⟨[.ref o, .str x tx], []⟩) (fun r s' => match r with | .ok (.ret v) => Q v s' | .ok _ => False | .error e => E e s') s
theorem ne : Nonempty V := ⟨((Classical.choice neW), 0, none, none, 0, {}, default, [], (fun _ => none), (fun _ => none), (fun _ => none), {}, (fun _ _ => True), (fun _ _ => True), default, 0, 0, 0)⟩
noncomputable def c : V := pick ne fun v => Stmt v.1 v.2.1 v.2.2.1 v.2.2.2.1 v.2.2.2.2.1 v.2.2.2.2.2.1 v.2.2.2.2.2.2.1 v.2.2.2.2.2.2.2.1 v.2.2.2.2.2.2.2.2.1 v.2.2.2.2.2.2.2.2.2.1 v.2.2.2.2.2.2.2.2.2.2.1 v.2.2.2.2.2.2.2.2.2.2.2.1 v.2.2.2.2.2.2.2.2.2.2.2.2.1 v.2.2.2.2.2.2.2.2.2.2.2.2.2.1 v.2.2.2.2.2.2.2.2.2.2.2.2.2.2.1 v.2.2.2.2.2.2.2.2.2.2.2.2.2.2.2.1 v.2.2.2.2.2.2.2.2.2.2.2.2.2.2.2.2.1 v.2.2.2.2.2.2.2.2.2.2.2.2.2.2.2.2.2
@[irreducible] noncomputable def w : World := c.1
@[irreducible] noncomputable def dA : Nat := c.2.1
@[irreducible] noncomputable def fA : Option (List Env) := c.2.2.1
@[irreducible] noncomputable def gA : Option (List Code) := c.2.2.2.1
@[irreducible] noncomputable def uA : Nat := c.2.2.2.2.1
@[irreducible] noncomputable def s : Shared := c.2.2.2.2.2.1
@[irreducible] noncomputable def p : Program := c.2.2.2.2.2.2.1
@[irreducible] noncomputable def loose : List Str := c.2.2.2.2.2.2.2.1
@[irreducible] noncomputable def mean : ExcName → Option Value := c.2.2.2.2.2.2.2.2.1
@[irreducible] noncomputable def mg : Str → Option Value := c.2.2.2.2.2.2.2.2.2.1
@[irreducible] noncomputable def mb : Str → Option Value := c.2.2.2.2.2.2.2.2.2.2.1
@[irreducible] noncomputable def g : Heap := c.2.2.2.2.2.2.2.2.2.2.2.1
@[irreducible] noncomputable def Q : Value → Shared → Prop := c.2.2.2.2.2.2.2.2.2.2.2.2.1
@[irreducible] noncomputable def E : Value → Shared → Prop := c.2.2.2.2.2.2.2.2.2.2.2.2.2.1
@[irreducible] noncomputable def x : Str := c.2.2.2.2.2.2.2.2.2.2.2.2.2.2.1
@[irreducible] noncomputable def tx : Tok := c.2.2.2.2.2.2.2.2.2.2.2.2.2.2.2.1
@[irreducible] noncomputable def o : Addr := c.2.2.2.2.2.2.2.2.2.2.2.2.2.2.2.2.1
@[irreducible] noncomputable def dx : Addr := c.2.2.2.2.2.2.2.2.2.2.2.2.2.2.2.2.2
inductive P1 (f : Flow) (s' : Shared) : Prop
  | mk (e : f = .next) (i : Nat) (c : Addr) (vs : List Value) (nn n : Nat) (t1 t2 t3 : Tok) (u : Option Value) (kt : Tok) (h' : Heap) (tk : Nat) (e0 : s' = { s with heap := h', toks := tk }) (e1 : (∀ d ∈ x.cps.toList.take i, d = 32 ∨ d = 9)) (e2 : (∀ ch, x.cps[i]? = some ch → ch ≠ 32 ∧ ch ≠ 9)) (e3 : IntsAre vs ((x.cps.toList.take i).foldl wsStep ([], 0, 0)).1) (e4 : c ≠ o) (e5 : c ≠ dx) (e6 : Fr (hideAll s.heap [o, dx]) s.heap.objs.size h' (wsMap x tx o c ((x.cps.toList.take i).foldl wsStep ([], 0, 0)).2.1 n ((x.cps.toList.take i).foldl wsStep ([], 0, 0)).2.2 t1 t2 t3 u)) (e7 : News (hideAll s.heap [o, dx]) s.heap.objs.size h' [(c, listOf vs.toArray nn), (o, instObj 133 dx), (dx, dictOf [{ hash := PyData.keyHash w.params "raw", key := .str "raw" kt, val := .str x tx }] 1)])
set_option maxHeartbeats 4000000 in
theorem spec_c : Stmt w dA fA gA uA s p loose mean mg mb g Q E x tx o dx := by
  intro X T hk hgo hgd hod hroom hx hx3 hxl ho hdx hq
  refine' enterC (K := hd.heap_1 w.params) X T hk (binds := [("self", .ref o), ("ws", .str x tx)]) ?ho ?hcd ?hroom ?hb ?hloc ?c1 ?c2 ?c3 ?c4 ?_
  case ho => k_is
  case hcd => k_is
  case hroom => dsimp only; lia
  case hb => exact bindsTo_peek (X.keeps hk) (fun S => by kernel_rfl)
  case hloc => exact locs rfl
  case c1 => exact rfl
  case c2 => exact rfl
  case c3 => exact rfl
  case c4 => decide
  intro h₁ hns hk₁
  have F : Fr (hideAll s.heap [o, dx]) s.heap.objs.size h₁ _ := ⟨hns, fun b o e => hk₁ b o (of_hideAll _ e), Nat.le_of_eq (hideAll_size _ _)⟩
  have N : News (hideAll s.heap [o, dx]) s.heap.objs.size h₁ [(o, instObj 133 dx), (dx, dictOf [] 0)] := fun q hq => by
    rcases List.mem_cons.mp hq with rfl | hq
    · exact ⟨hk₁ _ _ ho, Nat.ne_of_lt (Heap.lt_size ho), hideAll_none _ (.head _)⟩
    · rw [List.mem_singleton.mp hq]
      exact ⟨hk₁ _ _ hdx, Nat.ne_of_lt (Heap.lt_size hdx), hideAll_none _ (.tail _ (.head _))⟩
  have hgb : ∀ b o', g.get? b = some o' → (hideAll s.heap [o, dx]).get? b = some o' := fun b o' e => hideAll_get _ (hk b o' e) (fun q => by
    rcases List.mem_cons.mp q with rfl | q
    · rw [hgo] at e; cases e
    · rw [List.mem_singleton.mp q, hgd] at e; cases e)
  have X' := X.keeps hgb
  have T' := T.keeps hgb
  have hlt : @LT.lt Nat _ dx o := hod
  clear hns hk₁
  k_steps
  unfold Stop
  rename Fr _ _ _ _ => F1
  rename News _ _ _ _ => N1
  refine wpAny_mono (Q := fun f s' => Stop (P1 f s'))
    (For_invV (hideAll s.heap [o, dx]) rfl rfl ?_) ?_ (fun _ _ x => x)
  · k_steps
    refine Stop.go ?_
    refine ws_loop (t1 := ?t1) (t2 := ?t2) (t3 := ?t3) rfl hx F1 N1 ?hm ?hco ?hcd ?turn ?done
    case hm =>
      intro y
      unfold wsMap
      simp only [List.reverse_cons, List.reverse_nil, List.nil_append, List.cons_append, List.lookup_cons, List.lookup_nil]
      by_cases h1 : y = Str.ofString "count"
      · subst h1; rfl
      by_cases h2 : y = Str.ofString "b"
      · subst h2; rfl
      by_cases h3 : y = Str.ofString "n"
      · subst h3; rfl
      by_cases h4 : y = Str.ofString "nt"
      · subst h4; rfl
      by_cases h5 : y = Str.ofString "ch"
      · subst h5; rfl
      by_cases h6 : y = Str.ofString "S"
      · subst h6; rfl
      by_cases h7 : y = Str.ofString "T"
      · subst h7; rfl
      by_cases h8 : y = Str.ofString "self"
      · subst h8; rfl
      by_cases h9 : y = Str.ofString "ws"
      · subst h9; rfl
      have b8 : (y == Str.ofString "self") = false := by simpa using h8
      have b9 : (y == Str.ofString "ws") = false := by simpa using h9
      simp only [h1, h2, h3, h4, h5, h6, h7, h8, h9, if_false, b8, b9]
    case hco => show @Ne Nat _ _; lia
    case hcd => show @Ne Nat _ _; lia
    case done =>
      rintro m nx h tk ⟨c, vs, nn, n, t1, t2, t3, u, rfl, rfl, h1, h2, hI, hd⟩ F9 N9
      exact ⟨rfl, x.cps.size, c, vs, nn, n, t1, t2, t3, u, _, h, tk, rfl, hd, fun ch e => by simp at e, hI, h1, h2, F9, N9⟩
    case turn =>
      intro i ch c vs nn n t0 t1 t2 t3 h tk own hch hd hI hoff h1 h2 F9 N9
      generalize hst : (x.cps.toList.take i).foldl wsStep ([], 0, 0) = st at F9 N9 hI
      obtain ⟨cs, b, nt⟩ := st
      dsimp only at F9 N9 hI
      unfold wsMap at F9
      by_cases c32 : ch = 32
      · subst c32
        k_steps
        rename Fr _ _ _ _ => F8
        rename News _ _ _ _ => N8
        unfold Stop
        obtain ⟨t1', t2', t3', u', F8⟩ := wsFr_of (x := x) (tx := tx) (o := o) (c := c) F8 (b + 1) (n + 1) nt rfl ⟨_, rfl⟩ ⟨_, rfl⟩ ⟨_, rfl⟩ rfl rfl rfl rfl (fun y e1 e2 e3 e4 e5 e6 e7 e8 e9 => by simp only [e1, e2, e3, e4, e5, e6, e7, e8, e9, if_false])
        refine InvEndG.intro F8 N8 (nx := [(c, listOf vs.toArray nn), (o, instObj 133 dx), (dx, dictOf [{ hash := PyData.keyHash w.params "raw", key := .str "raw" _, val := .str x tx }] 1)])
          ⟨c, vs, nn, n + 1, t1', t2', t3', u', ?_, rfl, h1, h2, ?_, ?_⟩ hoff (fun p hp => List.mem_append.mpr (.inl hp)) (fun p hp => List.mem_append.mpr (.inr hp))
        · rw [take_snoc hch, List.foldl_append, hst]
          rfl
        · rw [take_snoc hch, List.foldl_append, hst]
          exact hI
        · rw [take_snoc hch]
          intro d hd'
          rcases List.mem_append.mp hd' with q | q
          · exact hd d q
          · exact .inl (List.mem_singleton.mp q)
      have hch3 := hx3 ch (by have := List.mem_of_getElem? (l := x.cps.toList) (i := i) (a := ch) (by simpa using hch); exact this)
      by_cases c9 : ch = 9
      · subst c9
        have hlen := hI.length
        have hbd := wsBound (x.cps.toList.take i)
        rw [hst] at hbd
        have hil : i < x.cps.size := (Array.getElem?_eq_some_iff.mp hch).1
        have hbd1 : cs.length ≤ 1000 := by have := hbd.1; simp only [List.length_take] at this; lia
        have hbd2 : b ≤ 1000 := by have := hbd.2; simp only [List.length_take] at this; lia
        clear hbd
        have hsnoc : (x.cps.toList.take (i + 1)).foldl wsStep ([], 0, 0) = wsStep (cs, b, nt) 9 := by rw [take_snoc hch, List.foldl_append, hst]; rfl
        have hd2 : ∀ d ∈ x.cps.toList.take (i + 1), d = 32 ∨ d = 9 := by
          rw [take_snoc hch]
          intro d hd'
          rcases List.mem_append.mp hd' with q | q
          · exact hd d q
          · exact .inr (List.mem_singleton.mp q)
        by_cases hb : cs.length ≤ b
        · k_steps
          rename Fr _ _ _ _ => F8
          rename News _ _ _ _ => N8
          rename IntsAre _ (cs ++ _) => hI8
          unfold Stop
          have ecs : cs ++ (List.replicate ((b : Int) - (cs.length : Int) + 1).toNat [(0 : Int)]).flatten = cs ++ List.replicate (b - cs.length + 1) 0 := by
            have e : ((b : Int) - (cs.length : Int) + 1).toNat = b - cs.length + 1 := by lia
            rw [e]
            congr 1
            generalize b - cs.length + 1 = k
            induction k with
            | zero => rfl
            | succ k ih => rw [List.replicate_succ, List.flatten_cons, ih, List.replicate_succ]; rfl
          dsimp only at N8 F8
          obtain ⟨t1', t2', t3', u', F8⟩ := wsFr_of (x := x) (tx := tx) (o := o) F8 0 (n + 1) (nt + 1) rfl ⟨_, rfl⟩ ⟨_, rfl⟩ ⟨_, rfl⟩ rfl rfl rfl rfl (fun y e1 e2 e3 e4 e5 e6 e7 e8 e9 => by simp only [e1, e2, e3, e4, e5, e6, e7, e8, e9, if_false])
          rename (_ ∧ _ ∧ AllLt _ _) => hl9
          have hlt9 := ktn_ltOf hl9.2.2
          have hmo : (o, instObj 133 dx) ∈ [(c, listOf vs.toArray nn), (o, instObj 133 dx), (dx, dictOf [{ hash := PyData.keyHash w.params "raw", key := .str "raw" (s.toks + (1 + 1) + 1), val := .str x tx }] 1)] ++ own := List.mem_append.mpr (.inl (.tail _ (.head _)))
          have hmd : (dx, dictOf [{ hash := PyData.keyHash w.params "raw", key := .str "raw" (s.toks + (1 + 1) + 1), val := .str x tx }] 1) ∈ [(c, listOf vs.toArray nn), (o, instObj 133 dx), (dx, dictOf [{ hash := PyData.keyHash w.params "raw", key := .str "raw" (s.toks + (1 + 1) + 1), val := .str x tx }] 1)] ++ own := List.mem_append.mpr (.inl (.tail _ (.tail _ (.head _))))
          exact ws_end F8 N8 (.head _) (.tail _ (.tail _ (.tail _ hmo))) (.tail _ (.tail _ (.tail _ hmd))) (fun p hp => .tail _ (.tail _ (.tail _ (List.mem_append.mpr (.inr hp)))))
            (fun p hp => Nat.ne_of_lt (hlt9 p (List.mem_append.mpr (.inr hp)))) (fun p hp b' hb' => hoff p hp b' (.tail _ hb')) (Nat.ne_of_gt (hlt9 _ hmo)) (Nat.ne_of_gt (hlt9 _ hmd)) (by rw [hsnoc]; exact wsStep_tab9 cs b nt) (by rw [if_pos hb, ← ecs]; exact ints_set hI8 b) hd2
        · k_steps
          rename Fr _ _ _ _ => F8
          rename News _ _ _ _ => N8
          refine ksa_set F8 N8 (.head (fun p hp => ?_)) hI (by lia) (by lia) (by lia) ?_
          · have hp' : p ∈ [(o, instObj 133 dx), (dx, dictOf [{ hash := PyData.keyHash w.params "raw", key := .str "raw" (s.toks + (1 + 1) + 1), val := .str x tx }] 1)] ++ own := hp
            rcases List.mem_append.mp hp' with q | q
            · rcases List.mem_cons.mp q with rfl | q
              · exact Ne.symm h1
              · rw [List.mem_singleton.mp q]; exact Ne.symm h2
            · exact hoff p q c (.head _)
          intro h' F7 N7
          k_steps
          rename Fr _ _ _ _ => F8
          rename News _ _ _ _ => N8
          unfold Stop
          obtain ⟨t1', t2', t3', u', F8⟩ := wsFr_of (x := x) (tx := tx) (o := o) (c := c) F8 0 (n + 1) (nt + 1) rfl ⟨_, rfl⟩ ⟨_, rfl⟩ ⟨_, rfl⟩ rfl rfl rfl rfl (fun y e1 e2 e3 e4 e5 e6 e7 e8 e9 => by simp only [e1, e2, e3, e4, e5, e6, e7, e8, e9, if_false])
          exact ws_end F8 N8 (.head _) (.tail _ (.head _)) (.tail _ (.tail _ (.head _))) (fun p hp => .tail _ (.tail _ (.tail _ hp))) (fun p hp => hoff p hp c (.head _)) (fun p hp b' hb' => hoff p hp b' (.tail _ hb')) h1 h2
            (by rw [hsnoc]; exact wsStep_tab9 cs b nt) (by rw [if_neg hb]; exact ints_set hI b) hd2
      · have c120 : ch = 120 := by lia
        subst c120
        k_steps
        refine Stop.go ⟨rfl, i, c, vs, nn, n, t1, t2, t3, some (.str ⟨#[120]⟩ t0), s.toks + (1 + 1) + 1, h, tk, rfl, hd, ?_, ?_, h1, h2, ?_, ?_⟩
        · intro ch e; rw [hch] at e; cases e; exact ⟨by decide, by decide⟩
        · rw [hst]; exact hI
        · rw [hst]; exact F9
        · exact fun p hp => N9 p (List.mem_append.mpr (.inl hp))
  rintro f s' ⟨rfl, i, c, vs, nn, n, t1, t2, t3, u, kt, h3, tk3, rfl, hd, hend, hI, h1, h2, F3, N3⟩
  generalize hst : (x.cps.toList.take i).foldl wsStep ([], 0, 0) = st at F3 N3 hI
  obtain ⟨cs, b, nt⟩ := st
  dsimp only at F3 N3 hI
  unfold wsMap at F3
  have hlen := hI.length
  have hbd := wsBound (x.cps.toList.take i)
  rw [hst] at hbd
  have hbd1 : cs.length ≤ 1000 := by have := hbd.1; simp only [List.length_take, Array.length_toList] at this; lia
  have hvl : vs.length ≤ 1000 := by lia
  have h1n : @Ne Nat c o := h1
  have h2n : @Ne Nat c dx := h2
  have hvs : vs.length ≤ sizeLine := by rw [sizeLine_eq]; lia
  clear hbd
  k_steps
  rename Fr _ _ _ _ => F8
  rename News _ _ _ _ => N8
  refine hq i _ _ hd hend (fun b o' e1 e2 e => F8.keep b o' (hideAll_get _ e fun q => ?_)) ?_
  · rcases List.mem_cons.mp q with q | q
    · exact e1 q
    · exact e2 (List.mem_singleton.mp q)
  · rw [hst]
    refine ⟨dx, _, _, _, _, _, _, _, _, _, _, _, _, _, ?_, N8.get (.tail _ (.tail _ (.tail _ (.head _)))), N8.get (.tail _ (.tail _ (.tail _ (.tail _ (.head _))))), N8.get (.head _), N8.get (.tail _ (.head _)), hI⟩

    have gn : ∀ a, (hideAll s.heap [o, dx]).get? a = none → g.get? a = none := fun a e => by
      cases q : g.get? a with
      | none => rfl
      | some o' => rw [hgb a o' q] at e; cases e
    intro a ha
    simp only [List.mem_cons, List.not_mem_nil, or_false] at ha
    rcases ha with rfl | rfl | rfl | rfl
    · exact hgo
    · exact hgd
    · exact gn _ (N8 _ (.head _)).2.2
    · exact gn _ (N8 _ (.tail _ (.head _))).2.2
theorem all : Stmt c.1 c.2.1 c.2.2.1 c.2.2.2.1 c.2.2.2.2.1 c.2.2.2.2.2.1 c.2.2.2.2.2.2.1 c.2.2.2.2.2.2.2.1 c.2.2.2.2.2.2.2.2.1 c.2.2.2.2.2.2.2.2.2.1 c.2.2.2.2.2.2.2.2.2.2.1 c.2.2.2.2.2.2.2.2.2.2.2.1 c.2.2.2.2.2.2.2.2.2.2.2.2.1 c.2.2.2.2.2.2.2.2.2.2.2.2.2.1 c.2.2.2.2.2.2.2.2.2.2.2.2.2.2.1 c.2.2.2.2.2.2.2.2.2.2.2.2.2.2.2.1 c.2.2.2.2.2.2.2.2.2.2.2.2.2.2.2.2.1 c.2.2.2.2.2.2.2.2.2.2.2.2.2.2.2.2.2 := by
  have h := spec_c
  unfold w dA fA gA uA s p loose mean mg mb g Q E x tx o dx at h
  exact h
end In
theorem init_spec {w : World} {A : Around} {s : Shared} {p : Program} {loose : List Str} {mean : ExcName → Option Value} {mg mb : Str → Option Value} {g : Heap}
    {Q E : Value → Shared → Prop} {x : Str} {tx : Tok} {o dx : Addr}
    (X : (hd.heap_1 w.params).In g) (T : Top p loose mean mg mb g) (hk : ∀ b o, g.get? b = some o → s.heap.get? b = some o) (hgo : g.get? o = none) (hgd : g.get? dx = none) (hod : dx < o)
    (hh : A.handled = none) (hroom : A.depth + 5 < recursionLimit) (hx : x.cps.all (· < 128) = true) (hx3 : ∀ c ∈ x.cps.toList, c = 32 ∨ c = 9 ∨ c = 120) (hxl : x.cps.size ≤ 1000)
    (ho : s.heap.get? o = some (instObj 133 dx)) (hdx : s.heap.get? dx = some (dictOf [] 0))
    (hq : ∀ i h' tk, (∀ d ∈ x.cps.toList.take i, d = 32 ∨ d = 9) → (∀ ch, x.cps[i]? = some ch → ch ≠ 32 ∧ ch ≠ 9) → (∀ b o', b ≠ o → b ≠ dx → s.heap.get? b = some o' → h'.get? b = some o') →
      IsWs w.params g h' o ((x.cps.toList.take i).foldl wsStep ([], 0, 0)).1 ((x.cps.toList.take i).foldl wsStep ([], 0, 0)).2.1 ((x.cps.toList.take i).foldl wsStep ([], 0, 0)).2.2 → Q .none { s with heap := h', toks := tk }) :
    codeAny (model PG w) A (.call (.ref 88) ⟨[.ref o, .str x tx], []⟩) (fun r s' => match r with | .ok (.ret v) => Q v s' | .ok _ => False | .error e => E e s') s := by
  obtain ⟨hA, dA, fA, gA, uA⟩ := A
  dsimp only at hh
  subst hh
  exact of_pick In.ne (fun v => In.Stmt v.1 v.2.1 v.2.2.1 v.2.2.2.1 v.2.2.2.2.1 v.2.2.2.2.2.1 v.2.2.2.2.2.2.1 v.2.2.2.2.2.2.2.1 v.2.2.2.2.2.2.2.2.1 v.2.2.2.2.2.2.2.2.2.1 v.2.2.2.2.2.2.2.2.2.2.1 v.2.2.2.2.2.2.2.2.2.2.2.1 v.2.2.2.2.2.2.2.2.2.2.2.2.1 v.2.2.2.2.2.2.2.2.2.2.2.2.2.1 v.2.2.2.2.2.2.2.2.2.2.2.2.2.2.1 v.2.2.2.2.2.2.2.2.2.2.2.2.2.2.2.1 v.2.2.2.2.2.2.2.2.2.2.2.2.2.2.2.2.1 v.2.2.2.2.2.2.2.2.2.2.2.2.2.2.2.2.2) In.all (w, dA, fA, gA, uA, s, p, loose, mean, mg, mb, g, Q, E, x, tx, o, dx) X T hk hgo hgd hod hroom hx hx3 hxl ho hdx hq
end RS
end PartW7

theorem RS.forgetW8 {prog : PySem.Program} {w : PySem.World} {A : PySem.Around} {env : PySem.Env} {Q : PySem.Flow → PySem.Shared → Prop} {E : PySem.Value → PySem.Shared → Prop} {s : PySem.Shared}
    (h : PySem.wpAny (PySem.model prog w) A (PySem.execs [] env) Q E s) : PySem.wpAny (PySem.model prog w) A (PySem.execs [] env) Q E s := by
  first | (walk1; fail "no") | skip
  w_top off
  exact h

section PartW8
open PySem PySem.W PyProof.Rows PySem.Calls
set_option Elab.async false
set_option maxRecDepth 100000
namespace RS
theorem fillT8 : (fun (_ : Params → Frag) (_ : OpenLaw) => True) hd.heap_1 PySem.Challenge.rw_rs0192_01 := by
  k_fill
  trivial
theorem ws_spec {w : World} {A : Around} {s : Shared} {p : Program} {loose : List Str} {mean : ExcName → Option Value} {mg mb : Str → Option Value} {g : Heap}
    {Q E : Value → Shared → Prop} {x : Str} {tx : Tok}
    (X : (hd.heap_1 w.params).In g) (T : Top p loose mean mg mb g) (hk : ∀ b o, g.get? b = some o → s.heap.get? b = some o)
    (hh : A.handled = none) (hroom : A.depth + 8 < recursionLimit) (hx : x.cps.all (· < 128) = true) (hx3 : ∀ c ∈ x.cps.toList, c = 32 ∨ c = 9 ∨ c = 120) (hxl : x.cps.size ≤ 1000)
    (hq : ∀ i o h' tk, (∀ d ∈ x.cps.toList.take i, d = 32 ∨ d = 9) → (∀ ch, x.cps[i]? = some ch → ch ≠ 32 ∧ ch ≠ 9) → (∀ b o', s.heap.get? b = some o' → h'.get? b = some o') →
      IsWs w.params g h' o ((x.cps.toList.take i).foldl wsStep ([], 0, 0)).1 ((x.cps.toList.take i).foldl wsStep ([], 0, 0)).2.1 ((x.cps.toList.take i).foldl wsStep ([], 0, 0)).2.2 → Q (.ref o) { s with heap := h', toks := tk }) :
    wpAny (model PG w) A (call (.ref 133) [.str x tx]) Q E s := by
  obtain ⟨hh0, g0, d0, t0, os0⟩ := s
  dsimp only at hk hq
  have X' := X.keeps hk
  have none_of : ∀ a, hh0.objs.size ≤ a → g.get? a = none := fun a ha => by
    cases e : g.get? a with
    | none => rfl
    | some o => exact absurd (Heap.lt_size (hk a o e)) (Nat.not_lt.mpr ha)
  have up : ∀ b o', hh0.get? b = some o' → ((hh0.push emptyDict).push (instObj 133 hh0.objs.size)).get? b = some o' := fun b o' e => Heap.get?_push_of_some _ (Heap.get?_push_of_some _ e)
  have hsz : (hh0.push emptyDict).objs.size = hh0.objs.size + 1 := Heap.size_push _ _
  refine wpAny_call (make_core (init := .ref 88) (makes_of X' (by k_is)) (looks_findIn X' (by k_is)) (fun self => bind_fn X' self (by k_is)) (.inl rfl) ?_)
  refine codeAny_mono (init_spec (Q := fun v s' => v = .none ∧ Q (.ref (hh0.objs.size + 1)) s') (E := E) (dx := hh0.objs.size) X T (fun b o e => up b o (hk b o e)) (none_of _ (Nat.le_succ _)) (none_of _ (Nat.le_refl _)) (Nat.lt_succ_self _) hh (by rw [depth_under_make]; lia) hx hx3 hxl ?_ ?_ ?_) ?_
  · show ((hh0.push emptyDict).push _).get? (hh0.objs.size + 1) = _
    rw [← hsz]
    exact Heap.get?_push_size _ rfl
  · exact Heap.get?_push_of_some _ (Heap.get?_push_size _ rfl)
  · intro i h' tk hd hend hkeep hws
    refine ⟨rfl, hq i _ h' tk hd hend (fun b o' e => ?_) hws⟩
    have hb : b < hh0.objs.size := Heap.lt_size e
    exact hkeep b o' (Nat.ne_of_lt (Nat.lt_succ_of_lt hb)) (Nat.ne_of_lt hb) (up b o' e)
  · intro r s' q
    rcases r with e | (v | _ | _ | _)
    · exact q
    · exact q.elim
    · exact q.elim
    · exact q.elim
    · exact q

local macro_rules | `(tactic| walk_at $k:str) => if ["exec For Name Call cons nil", "pyIter ref", "InvEndG"].contains k.getString then `(tactic| (refine Stop.of ?_)) else Lean.Macro.throwUnsupported
set_option maxHeartbeats 1600000 in
theorem range_loop {prog : Program} {w : World} {A : Around} {E : Value → Shared → Prop} {s : Shared} {env : Env} {h₀ : Heap} {x : Str} {body : List Stmt} {Q : Flow → Shared → Prop}
    {r : Addr} {a₀ b₀ : Int} {t₀ u₀ v₀ : Tok} {n : Nat} {m₀ : Str → Option Value} {news : List (Addr × Obj)} (J : Nat → (Str → Option Value) → List (Addr × Obj) → Prop)
    (hh : A.handled = none) (hr : IsRange s.heap r a₀ b₀ 1 t₀ u₀ v₀) (hsmall : Builtin.Range.small a₀ b₀ 1 = true) (hsz : Builtin.Range.rangeSize a₀ b₀ 1 = (n : Int))
    (F : Fr h₀ env.locals s.heap m₀) (N : News h₀ env.locals s.heap news) (hj : J 0 m₀ news)
    (turn : ∀ i t m₁ nx h tk own, i < n → OwnOff own (nx.map (·.1)) → J i m₁ nx → Fr h₀ env.locals h (fun y => if y = x then some (.int (a₀ + i) t) else m₁ y) → News h₀ env.locals h (nx ++ own) →
      wpAny (model prog w) A (execs body env) (InvPostG h₀ env.locals (J (i + 1)) own { s with heap := h, toks := tk } Q) E { s with heap := h, toks := tk })
    (done : ∀ m₁ nx h tk, J n m₁ nx → Fr h₀ env.locals h m₁ → News h₀ env.locals h nx → Q .next { s with heap := h, toks := tk }) :
    wpAny (model prog w) A (pyIter (.ref r)) (fun it s₂ => LoopAtV prog w A h₀ env x body Q E it s₂) E s := by
  refine wpAny_pyIter_range hr hsmall ?_
  have W : Walks prog w A s.heap.objs.size [s.heap.objs.size] [s.heap.objs.size] n (fun i v => i < n ∧ ∃ t, v = .int (a₀ + i * 1) t)
      (fun i h => IsRangeIter h s.heap.objs.size (a₀ + (i : Nat) * 1) ((n : Int) - (i : Nat)) 1) := (Walks.range hh _ a₀ 1 n).bound
  refine kdr_loop J W (fun _ h => h) (fun _ h => h) ?_ ?_ ?_ ?_ (by show IsRangeIter _ _ _ _ _; rw [hsz]; simpa using Heap.get?_push_size _ rfl) (F.push _) (fun p hp => ⟨Heap.get?_push_of_some _ (N p hp).1, (N p hp).2⟩) hj ?_ ?_
  · intro i h hi b hb
    rw [List.mem_singleton.mp hb]
    exact ⟨_, hi⟩
  · intro hm
    exact absurd F.ns.lt ((List.mem_singleton.mp hm) ▸ Nat.lt_irrefl _)
  · intro b hb
    rw [List.mem_singleton.mp hb]
    exact next_is_new F
  · intro p hp hI
    exact absurd (Heap.lt_size (N p hp).1) ((List.mem_singleton.mp hI) ▸ Nat.lt_irrefl _)
  · rintro i v m₁ nx h tk own hi ⟨_, t, rfl⟩ hoff hJ F₁ N₁
    have e1 : a₀ + (i : Int) * 1 = a₀ + (i : Int) := by lia
    rw [e1] at F₁
    exact turn i t m₁ nx h tk own hi hoff hJ F₁ N₁
  · intro m₁ nx h tk hJ F₁ N₁
    exact done m₁ nx h tk hJ F₁ N₁
theorem News.isTupAt {h₀ h : Heap} {L c : Addr} {its : Array Value} {news : List (Addr × Obj)} (N : News h₀ L h news) (hm : (c, ({ cls := .type "tuple", data := .seq its } : Obj)) ∈ news) : IsTup h c its := ⟨_, N.get hm, rfl, 0, rfl⟩
def ilSum (st : Int) (cs : List Int) (n : Nat) : Int := ((List.range n).map (fun i : Nat => (st + (i : Int)) / st * cs.getD (st.toNat + i) 0)).sum
theorem ilSum_succ {st : Int} {cs : List Int} {n : Nat} (h : 0 ≤ st) : ilSum st cs (n + 1) = ilSum st cs n + (st + (n : Int)).fdiv st * cs.getD (st + (n : Int)).toNat 0 := by
  unfold ilSum
  have e : (st + (n : Int)).toNat = st.toNat + n := by lia
  rw [List.range_succ, List.map_append, List.sum_append, e, Int.fdiv_eq_ediv_of_nonneg _ h]
  simp
theorem getD_bnd {cs : List Int} (h : ∀ x ∈ cs, 0 ≤ x ∧ x ≤ 1000) (k : Nat) : 0 ≤ cs.getD k 0 ∧ cs.getD k 0 ≤ 1000 := by
  rw [List.getD_eq_getElem?_getD]
  cases e : cs[k]? with
  | none => exact ⟨Int.le_refl _, by decide⟩
  | some x => exact h x (List.mem_of_getElem? e)
namespace Il
abbrev V : Type := (World) × (Nat) × (Option (List Env)) × (Option (List Code)) × (Nat) × (Shared) × (Program) × (List Str) × (ExcName → Option Value) × (Str → Option Value) × (Str → Option Value) × (Heap) × (Value → Shared → Prop) × (Value → Shared → Prop) × (Addr) × (List Int) × (Nat) × (Nat) × (Int) × (Tok)
def Stmt (w : World) (dA : Nat) (fA : Option (List Env)) (gA : Option (List Code)) (uA : Nat) (s : Shared) (p : Program) (loose : List Str) (mean : ExcName → Option Value) (mg : Str → Option Value) (mb : Str → Option Value) (g : Heap) (Q : Value → Shared → Prop) (E : Value → Shared → Prop) (o : Addr) (cs : List Int) (b : Nat) (nt : Nat) (st : Int) (ts : Tok) : Prop := ∀ (X : (hd.heap_1 w.params).In g) (T : Top p loose mean mg mb g) (hk : ∀ b o, g.get? b = some o → s.heap.get? b = some o) (hroom : dA + 5 < recursionLimit) (hws : IsWs w.params g s.heap o cs b nt) (hst : 1 ≤ st) (hst2 : st ≤ 1000) (hcl : cs.length ≤ 1000) (hcb : ∀ x ∈ cs, 0 ≤ x ∧ x ≤ 1000) (hq : ∀ h' t tk, (∀ b o', s.heap.get? b = some o' → h'.get? b = some o') → Q (.int ((b : Int) + st * (ilSum st cs (cs.length - st.toNat) + nt)) t) { s with heap := h', toks := tk }),
    wpAny (model PG w) (Around.mk none dA fA gA uA) (call (.ref 102) [.ref o, .int st ts]) Q E s
theorem ne : Nonempty V := ⟨((Classical.choice neW), 0, none, none, 0, {}, default, [], (fun _ => none), (fun _ => none), (fun _ => none), {}, (fun _ _ => True), (fun _ _ => True), 0, [], 0, 0, 0, 0)⟩
noncomputable def c : V := pick ne fun v => Stmt v.1 v.2.1 v.2.2.1 v.2.2.2.1 v.2.2.2.2.1 v.2.2.2.2.2.1 v.2.2.2.2.2.2.1 v.2.2.2.2.2.2.2.1 v.2.2.2.2.2.2.2.2.1 v.2.2.2.2.2.2.2.2.2.1 v.2.2.2.2.2.2.2.2.2.2.1 v.2.2.2.2.2.2.2.2.2.2.2.1 v.2.2.2.2.2.2.2.2.2.2.2.2.1 v.2.2.2.2.2.2.2.2.2.2.2.2.2.1 v.2.2.2.2.2.2.2.2.2.2.2.2.2.2.1 v.2.2.2.2.2.2.2.2.2.2.2.2.2.2.2.1 v.2.2.2.2.2.2.2.2.2.2.2.2.2.2.2.2.1 v.2.2.2.2.2.2.2.2.2.2.2.2.2.2.2.2.2.1 v.2.2.2.2.2.2.2.2.2.2.2.2.2.2.2.2.2.2.1 v.2.2.2.2.2.2.2.2.2.2.2.2.2.2.2.2.2.2.2
@[irreducible] noncomputable def w : World := c.1
@[irreducible] noncomputable def dA : Nat := c.2.1
@[irreducible] noncomputable def fA : Option (List Env) := c.2.2.1
@[irreducible] noncomputable def gA : Option (List Code) := c.2.2.2.1
@[irreducible] noncomputable def uA : Nat := c.2.2.2.2.1
@[irreducible] noncomputable def s : Shared := c.2.2.2.2.2.1
@[irreducible] noncomputable def p : Program := c.2.2.2.2.2.2.1
@[irreducible] noncomputable def loose : List Str := c.2.2.2.2.2.2.2.1
@[irreducible] noncomputable def mean : ExcName → Option Value := c.2.2.2.2.2.2.2.2.1
@[irreducible] noncomputable def mg : Str → Option Value := c.2.2.2.2.2.2.2.2.2.1
@[irreducible] noncomputable def mb : Str → Option Value := c.2.2.2.2.2.2.2.2.2.2.1
@[irreducible] noncomputable def g : Heap := c.2.2.2.2.2.2.2.2.2.2.2.1
@[irreducible] noncomputable def Q : Value → Shared → Prop := c.2.2.2.2.2.2.2.2.2.2.2.2.1
@[irreducible] noncomputable def E : Value → Shared → Prop := c.2.2.2.2.2.2.2.2.2.2.2.2.2.1
@[irreducible] noncomputable def o : Addr := c.2.2.2.2.2.2.2.2.2.2.2.2.2.2.1
@[irreducible] noncomputable def cs : List Int := c.2.2.2.2.2.2.2.2.2.2.2.2.2.2.2.1
@[irreducible] noncomputable def b : Nat := c.2.2.2.2.2.2.2.2.2.2.2.2.2.2.2.2.1
@[irreducible] noncomputable def nt : Nat := c.2.2.2.2.2.2.2.2.2.2.2.2.2.2.2.2.2.1
@[irreducible] noncomputable def st : Int := c.2.2.2.2.2.2.2.2.2.2.2.2.2.2.2.2.2.2.1
@[irreducible] noncomputable def ts : Tok := c.2.2.2.2.2.2.2.2.2.2.2.2.2.2.2.2.2.2.2
set_option maxHeartbeats 4000000 in
theorem spec_c : Stmt w dA fA gA uA s p loose mean mg mb g Q E o cs b nt st ts := by
  intro X T hk hroom hws hst hst2 hcl hcb hq
  obtain ⟨dx, k1, k2, k3, k4, k5, v1, v2, v5, t3, N, C, vs, t, hgn, e1, e2, e3, e4, hI⟩ := hws
  refine wpAny_call ?_
  refine' enterC (K := hd.heap_1 w.params) X T hk (binds := [("self", .ref o), ("tabsize", .int st ts)]) ?ho ?hcd ?hroom ?hb ?hloc ?c1 ?c2 ?c3 ?c4 ?_
  case ho => k_is
  case hcd => k_is
  case hroom => dsimp only; lia
  case hb => exact bindsTo_peek (X.keeps hk) (fun S => by kernel_rfl)
  case hloc => exact locs rfl
  case c1 => exact rfl
  case c2 => exact rfl
  case c3 => exact rfl
  case c4 => decide
  intro h₁ hns hk₁
  have F : Fr (hideAll s.heap [o, dx, N, C]) s.heap.objs.size h₁ _ := ⟨hns, fun b o e => hk₁ b o (of_hideAll _ e), Nat.le_of_eq (hideAll_size _ _)⟩
  have Ns : News (hideAll s.heap [o, dx, N, C]) s.heap.objs.size h₁ [(o, instObj 133 dx), (dx, dictOf [⟨PyData.keyHash w.params "raw", .str "raw" k1, v1⟩, ⟨PyData.keyHash w.params "n", .str "n" k2, v2⟩, ⟨PyData.keyHash w.params "nt", .str "nt" k3, .int (nt : Int) t3⟩, ⟨PyData.keyHash w.params "norm", .str "norm" k4, .ref N⟩, ⟨PyData.keyHash w.params "is_simple", .str "is_simple" k5, v5⟩] 5),
      (N, { cls := .type "tuple", data := .seq #[.ref C, .int (b : Int) t] }), (C, { cls := .type "tuple", data := .seq vs.toArray })] := fun q hq => by
    have key : s.heap.get? q.1 = some q.2 ∧ q.1 ∈ [o, dx, N, C] := by
      simp only [List.mem_cons, List.not_mem_nil, or_false] at hq
      rcases hq with rfl | rfl | rfl | rfl
      · exact ⟨e1, .head _⟩
      · exact ⟨e2, .tail _ (.head _)⟩
      · exact ⟨e3, .tail _ (.tail _ (.head _))⟩
      · exact ⟨e4, .tail _ (.tail _ (.tail _ (.head _)))⟩
    exact ⟨hk₁ _ _ key.1, Nat.ne_of_lt (Heap.lt_size key.1), hideAll_none _ key.2⟩
  have hgb : ∀ b o', g.get? b = some o' → (hideAll s.heap [o, dx, N, C]).get? b = some o' := fun b o' e => hideAll_get _ (hk b o' e) fun q => by rw [hgn b q] at e; cases e
  have X' := X.keeps hgb
  have T' := T.keeps hgb
  clear hns
  k_steps
  unfold Stop
  rename Fr _ _ _ _ => F1
  rename News _ _ _ _ => N1
  refine wpAny_mono (Q := fun f s' => Stop (f = .next ∧ ∃ il ti h' tk, s' = { s with heap := h', toks := tk } ∧ il = ilSum st cs (cs.length - st.toNat) ∧
      ∃ u tb, Fr (hideAll s.heap [o, dx, N, C]) s.heap.objs.size h' (fun y => if y = Str.ofString "i" then u else if y = Str.ofString "il" then some (.int il ti) else if y = Str.ofString "trailing" then some (.int (b : Int) tb) else if y = Str.ofString "self" then some (.ref o) else if y = Str.ofString "tabsize" then some (.int st ts) else if y = Str.ofString "count" then some (.ref C) else none) ∧
      News (hideAll s.heap [o, dx, N, C]) s.heap.objs.size h' [(o, instObj 133 dx), (dx, dictOf [⟨PyData.keyHash w.params "raw", .str "raw" k1, v1⟩, ⟨PyData.keyHash w.params "n", .str "n" k2, v2⟩, ⟨PyData.keyHash w.params "nt", .str "nt" k3, .int (nt : Int) t3⟩, ⟨PyData.keyHash w.params "norm", .str "norm" k4, .ref N⟩, ⟨PyData.keyHash w.params "is_simple", .str "is_simple" k5, v5⟩] 5),
        (N, { cls := .type "tuple", data := .seq #[.ref C, .int (b : Int) t] }), (C, { cls := .type "tuple", data := .seq vs.toArray })]))
    (For_invV (hideAll s.heap [o, dx, N, C]) rfl rfl ?_) ?_ (fun _ _ x => x)
  · k_steps
    refine len_tuple (News.isTupAt N1 (.tail _ (.tail _ (.tail _ (.head _))))) (by have := hI.length; simp; lia) ?_
    k_steps
    refine Stop.go ?_
    rename IntsAre _ _ => hI
    rename IsRange _ _ _ _ _ _ _ _ => R1
    rename Fr _ _ _ _ => F2
    rename News _ _ _ _ => N2
    have hsz : Builtin.Range.rangeSize st (cs.length : Int) 1 = ((cs.length - st.toNat : Nat) : Int) := by rw [rangeSize_one]; split <;> lia
    refine range_loop (n := cs.length - st.toNat) (fun i m nx => ∃ ti u, m = (fun y => if y = Str.ofString "i" then u else if y = Str.ofString "il" then some (.int (ilSum st cs i) ti) else if y = Str.ofString "trailing" then some (.int (b : Int) t) else if y = Str.ofString "self" then some (.ref o) else if y = Str.ofString "tabsize" then some (.int st ts) else if y = Str.ofString "count" then some (.ref C) else none) ∧
      nx = [(o, instObj 133 dx), (dx, dictOf [⟨PyData.keyHash w.params "raw", .str "raw" k1, v1⟩, ⟨PyData.keyHash w.params "n", .str "n" k2, v2⟩, ⟨PyData.keyHash w.params "nt", .str "nt" k3, .int (nt : Int) t3⟩, ⟨PyData.keyHash w.params "norm", .str "norm" k4, .ref N⟩, ⟨PyData.keyHash w.params "is_simple", .str "is_simple" k5, v5⟩] 5),
        (N, { cls := .type "tuple", data := .seq #[.ref C, .int (b : Int) t] }), (C, { cls := .type "tuple", data := .seq vs.toArray })]) rfl R1 (small_one (by lia) (by lia) (by lia) (by lia)) hsz F2 N2 ⟨?ti, none, ?hm, rfl⟩ ?turn ?done
    case hm =>
      funext y
      simp only [List.reverse_cons, List.reverse_nil, List.nil_append, List.cons_append, List.lookup_cons, List.lookup_nil]
      by_cases h1 : y = Str.ofString "il"
      · subst h1; rfl
      by_cases h2 : y = Str.ofString "trailing"
      · subst h2; rfl
      by_cases h3 : y = Str.ofString "count"
      · subst h3; rfl
      by_cases h4 : y = Str.ofString "self"
      · subst h4; rfl
      by_cases h5 : y = Str.ofString "tabsize"
      · subst h5; rfl
      by_cases h6 : y = Str.ofString "i"
      · subst h6; rfl
      have b8 : (y == Str.ofString "self") = false := by simpa using h4
      have b9 : (y == Str.ofString "tabsize") = false := by simpa using h5
      simp only [h1, h2, h3, h4, h5, h6, if_false, b8, b9]
    case turn =>
      rintro i tk0 m₁ nx h tk own hi hoff ⟨ti, u, rfl, rfl⟩ F3 N3
      have F4 := Fr.congr (m' := fun y => if y = Str.ofString "i" then some (.int (st + (i : Int)) tk0) else if y = Str.ofString "il" then some (.int (ilSum st cs i) ti) else if y = Str.ofString "trailing" then some (.int (b : Int) t) else if y = Str.ofString "self" then some (.ref o) else if y = Str.ofString "tabsize" then some (.int st ts) else if y = Str.ofString "count" then some (.ref C) else none) F3 (fun y => by by_cases h6 : y = Str.ofString "i" <;> simp [h6])
      clear F3
      k_steps
      refine PySem.P.mul_int ?_ ?_
      case refine_2 =>
        refine IntMulOk.of_right (intBits_le_64 ?_ ?_)
        · have := getD_bnd hcb (st + i).toNat; lia
        · have := getD_bnd hcb (st + i).toNat; lia
      k_steps
      rename Fr _ _ _ _ => F8
      rename News _ _ _ _ => N8
      unfold Stop
      refine InvEndG.intro F8 N8 (nx := [(o, instObj 133 dx), (dx, dictOf [⟨PyData.keyHash w.params "raw", .str "raw" k1, v1⟩, ⟨PyData.keyHash w.params "n", .str "n" k2, v2⟩, ⟨PyData.keyHash w.params "nt", .str "nt" k3, .int (nt : Int) t3⟩, ⟨PyData.keyHash w.params "norm", .str "norm" k4, .ref N⟩, ⟨PyData.keyHash w.params "is_simple", .str "is_simple" k5, v5⟩] 5),
        (N, { cls := .type "tuple", data := .seq #[.ref C, .int (b : Int) t] }), (C, { cls := .type "tuple", data := .seq vs.toArray })]) ⟨?ti2, some (.int (st + i) tk0), ?hm2, rfl⟩ hoff (fun p hp => List.mem_append.mpr (.inl hp)) (fun p hp => List.mem_append.mpr (.inr hp))
      case hm2 =>
        funext y
        rw [ilSum_succ (by lia)]
        by_cases h1 : y = Str.ofString "il"
        · subst h1; rfl
        by_cases h6 : y = Str.ofString "i"
        · subst h6; rfl
        simp only [h1, h6, if_false]
    case done =>
      rintro m nx h tk ⟨ti, u, rfl, rfl⟩ F9 N9
      exact ⟨rfl, _, ti, h, tk, rfl, rfl, u, _, F9, N9⟩
  · rintro f s' ⟨rfl, il, ti, h3, tk3, rfl, rfl, u, tb, F3, N3⟩
    k_steps
    rename Fr _ _ _ _ => F8
    rename News _ _ _ _ => N8
    refine hq _ _ _ (fun b o' e => ?_)
    by_cases q : b ∈ [o, dx, N, C]
    · simp only [List.mem_cons, List.not_mem_nil, or_false] at q
      rcases q with rfl | rfl | rfl | rfl
      · rw [e1] at e; cases e; exact N8.get (.head _)
      · rw [e2] at e; cases e; exact N8.get (.tail _ (.head _))
      · rw [e3] at e; cases e; exact N8.get (.tail _ (.tail _ (.head _)))
      · rw [e4] at e; cases e; exact N8.get (.tail _ (.tail _ (.tail _ (.head _))))
    · exact F8.keep b o' (hideAll_get _ e q)
theorem all : Stmt c.1 c.2.1 c.2.2.1 c.2.2.2.1 c.2.2.2.2.1 c.2.2.2.2.2.1 c.2.2.2.2.2.2.1 c.2.2.2.2.2.2.2.1 c.2.2.2.2.2.2.2.2.1 c.2.2.2.2.2.2.2.2.2.1 c.2.2.2.2.2.2.2.2.2.2.1 c.2.2.2.2.2.2.2.2.2.2.2.1 c.2.2.2.2.2.2.2.2.2.2.2.2.1 c.2.2.2.2.2.2.2.2.2.2.2.2.2.1 c.2.2.2.2.2.2.2.2.2.2.2.2.2.2.1 c.2.2.2.2.2.2.2.2.2.2.2.2.2.2.2.1 c.2.2.2.2.2.2.2.2.2.2.2.2.2.2.2.2.1 c.2.2.2.2.2.2.2.2.2.2.2.2.2.2.2.2.2.1 c.2.2.2.2.2.2.2.2.2.2.2.2.2.2.2.2.2.2.1 c.2.2.2.2.2.2.2.2.2.2.2.2.2.2.2.2.2.2.2 := by
  have h := spec_c
  unfold w dA fA gA uA s p loose mean mg mb g Q E o cs b nt st ts at h
  exact h
end Il
theorem il_spec0 {w : World} {A : Around} {s : Shared} {p : Program} {loose : List Str} {mean : ExcName → Option Value} {mg mb : Str → Option Value} {g : Heap}
    {Q E : Value → Shared → Prop} {o : Addr} {cs : List Int} {b nt : Nat} {st : Int} {ts : Tok}
    (X : (hd.heap_1 w.params).In g) (T : Top p loose mean mg mb g) (hk : ∀ b o, g.get? b = some o → s.heap.get? b = some o)
    (hh : A.handled = none) (hroom : A.depth + 5 < recursionLimit) (hws : IsWs w.params g s.heap o cs b nt) (hst : 1 ≤ st) (hst2 : st ≤ 1000) (hcl : cs.length ≤ 1000) (hcb : ∀ x ∈ cs, 0 ≤ x ∧ x ≤ 1000)
    (hq : ∀ h' t tk, (∀ b o', s.heap.get? b = some o' → h'.get? b = some o') → Q (.int ((b : Int) + st * (ilSum st cs (cs.length - st.toNat) + nt)) t) { s with heap := h', toks := tk }) :
    wpAny (model PG w) A (call (.ref 102) [.ref o, .int st ts]) Q E s := by
  obtain ⟨hA, dA, fA, gA, uA⟩ := A
  dsimp only at hh
  subst hh
  exact of_pick Il.ne (fun v => Il.Stmt v.1 v.2.1 v.2.2.1 v.2.2.2.1 v.2.2.2.2.1 v.2.2.2.2.2.1 v.2.2.2.2.2.2.1 v.2.2.2.2.2.2.2.1 v.2.2.2.2.2.2.2.2.1 v.2.2.2.2.2.2.2.2.2.1 v.2.2.2.2.2.2.2.2.2.2.1 v.2.2.2.2.2.2.2.2.2.2.2.1 v.2.2.2.2.2.2.2.2.2.2.2.2.1 v.2.2.2.2.2.2.2.2.2.2.2.2.2.1 v.2.2.2.2.2.2.2.2.2.2.2.2.2.2.1 v.2.2.2.2.2.2.2.2.2.2.2.2.2.2.2.1 v.2.2.2.2.2.2.2.2.2.2.2.2.2.2.2.2.1 v.2.2.2.2.2.2.2.2.2.2.2.2.2.2.2.2.2.1 v.2.2.2.2.2.2.2.2.2.2.2.2.2.2.2.2.2.2.1 v.2.2.2.2.2.2.2.2.2.2.2.2.2.2.2.2.2.2.2) Il.all (w, dA, fA, gA, uA, s, p, loose, mean, mg, mb, g, Q, E, o, cs, b, nt, st, ts) X T hk hroom hws hst hst2 hcl hcb hq
end RS
end PartW8

theorem RS.forgetM1 {prog : PySem.Program} {w : PySem.World} {A : PySem.Around} {env : PySem.Env} {Q : PySem.Flow → PySem.Shared → Prop} {E : PySem.Value → PySem.Shared → Prop} {s : PySem.Shared}
    (h : PySem.wpAny (PySem.model prog w) A (PySem.execs [] env) Q E s) : PySem.wpAny (PySem.model prog w) A (PySem.execs [] env) Q E s := by
  first | (walk1; fail "no") | skip
  w_top off
  exact h

section PartM1
open PySem PySem.W PyProof.Rows PySem.Calls
set_option Elab.async false
set_option maxRecDepth 100000
namespace RS
theorem fillM1 : (fun (_ : Params → Frag) (_ : OpenLaw) => True) hd.heap_1 PySem.Challenge.rw_rs0192_01 := by
  k_fill
  trivial
local macro_rules | `(tactic| walk_at $k:str) => if ["exec For Name Call cons nil", "call ref"].contains k.getString then `(tactic| (refine Stop.of ?_)) else Lean.Macro.throwUnsupported
theorem News.lstAt {h₀ h : Heap} {L c : Addr} {vs : List Value} {n : Nat} {news : List (Addr × Obj)} (N : News h₀ L h news) (hm : (c, listOf vs.toArray n) ∈ news) : h.IsList c vs.toArray := ⟨_, N.get hm, rfl, n, rfl⟩
theorem forLoop_stop {prog : Program} {w : World} {A : Around} {R : Result → Shared → Prop} {s : Shared} {target : PySem.Expr} {it : Value} {body orelse : List Stmt} {env : Env} (I : Nat → Shared → Prop)
    (turn : ∀ n s, I n s → wpAny (model prog w) A (pyNext it) (fun r s₁ => match r with
      | none => wpAny (model prog w) A (execs orelse env) (fun f s₃ => Stop (R (.ok f) s₃)) (notedBy (model prog w) A env fun e s' => R (.error e) s') s₁
      | some v => wpAny (model prog w) A (letOwnedTupleGo target it v) (fun _ s₁' =>
          wpAny (model prog w) A (assign target env v) (fun _ s₂ => wpAny (model prog w) A (execs body env) (fun f s₃ => Stop (match f with
            | .next | .cont => ∃ m, m < n ∧ I m s₃
            | .brk => R (.ok .next) s₃
            | .ret v => R (.ok (.ret v)) s₃)) (notedBy (model prog w) A env fun e s' => R (.error e) s') s₂) (notedBy (model prog w) A env fun e s' => R (.error e) s') s₁') (notedBy (model prog w) A env fun e s' => R (.error e) s') s₁) (notedBy (model prog w) A env fun e s' => R (.error e) s') s)
    (n : Nat) (h : I n s) : codeAny (model prog w) A (.forLoop target it body orelse env) R s := codeAny_forLoop_any I turn n h
local macro_rules | `(tactic| walk_at "call builtin:len") => `(tactic| (k_here; (with_reducible show wpAny _ _ (call (Value.builtin "len") [Value.ref _]) _ _ _); k_dflt (refine len_list (News.lstAt (by assumption) (by first | exact .head _ | exact .tail _ (.head _))) (by simp only [List.size_toArray]; omega) ?_)))
def sgOf (f k b : Nat) : List Int := if f ≤ b then (f : Int) :: List.replicate ((b - f) / k) (k : Int) else []
theorem flat_rep (k : Int) : ∀ n, (List.replicate n [k]).flatten = List.replicate n k
  | 0 => rfl
  | n + 1 => by rw [List.replicate_succ, List.flatten_cons, flat_rep k n, List.replicate_succ]; rfl
theorem mk_map {v a b c d : Value} (y : Str) : (if y = Str.ofString "single" then some v else [(Str.ofString "first", a), (Str.ofString "step", b), (Str.ofString "bound", c), (Str.ofString "kind", d)].reverse.lookup y) =
    if y = Str.ofString "single" then some v else if y = Str.ofString "first" then some a else if y = Str.ofString "step" then some b else if y = Str.ofString "bound" then some c else if y = Str.ofString "kind" then some d else none := by
  simp only [List.reverse_cons, List.reverse_nil, List.nil_append, List.cons_append, List.lookup_cons, List.lookup_nil]
  by_cases h1 : y = Str.ofString "single"
  · subst h1; rfl
  by_cases h2 : y = Str.ofString "first"
  · subst h2; rfl
  by_cases h3 : y = Str.ofString "step"
  · subst h3; rfl
  by_cases h4 : y = Str.ofString "bound"
  · subst h4; rfl
  by_cases h5 : y = Str.ofString "kind"
  · subst h5; rfl
  have b2 : (y == Str.ofString "first") = false := by simpa using h2
  have b3 : (y == Str.ofString "step") = false := by simpa using h3
  have b4 : (y == Str.ofString "bound") = false := by simpa using h4
  have b5 : (y == Str.ofString "kind") = false := by simpa using h5
  simp only [h1, h2, h3, h4, h5, if_false, b2, b3, b4, b5]
def mksOf (f k b : Nat) : List Int := if f ≤ b then (List.range ((b - f) / k + 1)).map (fun i => ((f + k * i : Nat) : Int)) else []
theorem sg_get {f k b j : Nat} (h : j < (sgOf f k b).length) : (sgOf f k b)[j]? = some (if j = 0 then (f : Int) else k) := by
  unfold sgOf at h ⊢
  by_cases q : f ≤ b
  · rw [if_pos q] at h ⊢
    cases j with
    | zero => rfl
    | succ j =>
      simp only [List.length_cons, List.length_replicate] at h
      rw [List.getElem?_cons_succ, List.getElem?_replicate, if_pos (by lia)]
      rfl
  · rw [if_neg q] at h
    exact absurd h (Nat.not_lt_zero _)
theorem out0 (f k : Int) (j : Nat) : gOut [f, k] true j = some (if j = 0 then f else k) := by
  unfold gOut
  match j with
  | 0 => rfl
  | 1 => rfl
  | j + 2 => rfl
theorem outN (pre : List Int) (j : Nat) : gOut pre false j = pre[j]? := by
  unfold gOut
  split
  · rfl
  · rw [List.getElem?_eq_none (by lia)]; rfl
theorem sg_pos {f k b : Nat} : 0 < (sgOf f k b).length ↔ f ≤ b := by
  unfold sgOf
  split <;> simp [*]
theorem sg_mem {f k b : Nat} {x : Int} (h : x ∈ sgOf f k b) : x = f ∨ x = k := by
  unfold sgOf at h
  split at h
  · rcases List.mem_cons.mp h with q | q
    · exact .inl q
    · exact .inr (List.eq_of_mem_replicate q)
  · cases h
theorem mks_len (f k b : Nat) : (mksOf f k b).length = (sgOf f k b).length := by
  unfold mksOf sgOf
  split <;> simp
theorem mks_get {f k b j : Nat} (h : j < (sgOf f k b).length) : (mksOf f k b)[j]? = some ((f + k * j : Nat) : Int) := by
  have hfb : f ≤ b := sg_pos.mp (Nat.lt_of_le_of_lt (Nat.zero_le _) h)
  rw [← mks_len] at h
  unfold mksOf at h ⊢
  rw [if_pos hfb] at h ⊢
  rw [List.length_map, List.length_range] at h
  rw [List.getElem?_map, List.getElem?_range h]
  rfl
theorem mark_val {f k b j : Nat} {x : Int} (hj : j ≤ (sgOf f k b).length) (hx : x = if j = 0 then (f : Int) else k) :
    (List.drop ((List.take j (mksOf f k b)).length - 1) (List.take j (mksOf f k b))).sum + x = ((f + k * j : Nat) : Int) := by
  have hl : (List.take j (mksOf f k b)).length = j := by rw [List.length_take, mks_len]; lia
  rw [hl]
  cases j with
  | zero => simp [hx]
  | succ j =>
    have e := mks_get (f := f) (k := k) (b := b) (j := j) (by lia)
    rw [List.take_add_one, e]
    have hl2 : (List.take j (mksOf f k b)).length = j := by rw [List.length_take, mks_len]; lia
    have e2 : j + 1 - 1 = (List.take j (mksOf f k b)).length := by lia
    rw [e2, List.drop_left, hx, if_neg (Nat.succ_ne_zero j)]
    simp only [Option.toList, List.sum_cons, List.sum_nil]
    rw [Nat.mul_succ]
    lia
theorem mark_in {f k b j : Nat} (h : j < (sgOf f k b).length) : f + k * j ≤ b := by
  have hfb : f ≤ b := sg_pos.mp (Nat.lt_of_le_of_lt (Nat.zero_le _) h)
  unfold sgOf at h
  rw [if_pos hfb] at h
  simp only [List.length_cons, List.length_replicate] at h
  have h1 : k * j ≤ k * ((b - f) / k) := Nat.mul_le_mul_left _ (by lia)
  have := Nat.mul_div_le (b - f) k
  lia
theorem mark_out {f k b j : Nat} (hk : 1 ≤ k) (h : j = (sgOf f k b).length) : b < f + k * j := by
  by_cases hfb : f ≤ b
  · unfold sgOf at h
    rw [if_pos hfb] at h
    simp only [List.length_cons, List.length_replicate] at h
    have := Nat.lt_mul_div_succ (b - f) (show 0 < k by lia)
    rw [h]
    lia
  · lia
theorem sg_len_le {f k b : Nat} (hf : 1 ≤ f) : (sgOf f k b).length ≤ b := by
  unfold sgOf
  split
  · simp only [List.length_cons, List.length_replicate]
    have := Nat.div_le_self (b - f) k
    lia
  · simp
/-- all else that stands, as a ledger's tail -/
theorem own_of {h₀ h : Heap} {L M : Addr} {oM : Obj} (N : News h₀ L h [(M, oM)]) : ∃ own, News h₀ L h ([(M, oM)] ++ own) ∧ OwnOff own [M] ∧ ∀ b o, b ∉ [L, M] → h.get? b = some o → h₀.get? b = none → (b, o) ∈ own := by
  refine ⟨(List.range h.objs.size).filterMap (fun b => if b ∈ [L, M] ∨ (h₀.get? b).isSome then none else (h.get? b).map (fun o => (b, o))), ?_, ?_, ?_⟩
  · intro p hp
    rcases List.mem_append.mp hp with q | q
    · exact N p q
    · obtain ⟨b, _, hb⟩ := List.mem_filterMap.mp q
      split at hb
      · cases hb
      · rename_i hn
        obtain ⟨o, ho, rfl⟩ := Option.map_eq_some_iff.mp hb
        refine ⟨ho, fun e => hn (.inl (e ▸ .head _)), ?_⟩
        cases e : h₀.get? b with
        | none => rfl
        | some _ => exact absurd (.inr (by rw [e]; rfl)) hn
  · intro p hp b hb e
    obtain ⟨c, _, hc⟩ := List.mem_filterMap.mp hp
    split at hc
    · cases hc
    · rename_i hn
      obtain ⟨o, ho, rfl⟩ := Option.map_eq_some_iff.mp hc
      rw [List.mem_singleton.mp hb] at e
      dsimp only at e
      exact hn (.inl (by rw [e]; simp))
  · intro b o hb e e0
    refine List.mem_filterMap.mpr ⟨b, List.mem_range.mpr (Heap.lt_size e), ?_⟩
    rw [if_neg, e]
    · rfl
    · rintro (q | q)
      · exact hb q
      · rw [e0] at q; cases q
theorem own_keep {h₀ h h' : Heap} {L M : Addr} {m m' : Str → Option Value} {own l2 : List (Addr × Obj)} (F : Fr h₀ L h m) (F' : Fr h₀ L h' m') (N' : News h₀ L h' (l2 ++ own)) (hown : ∀ b o, b ∉ [L, M] → h.get? b = some o → h₀.get? b = none → (b, o) ∈ own) :
    ∀ b o, b ∉ [L, M] → h.get? b = some o → h'.get? b = some o := by
  intro b o hb e
  cases e0 : h₀.get? b with
  | some o' =>
    rw [F.keep b o' e0] at e
    cases e
    exact F'.keep b _ e0
  | none => exact N'.get (List.mem_append.mpr (.inr (hown b o hb e e0)))
theorem mk2 {v1 v2 u1 u2 : Option Value} {m : Str → Option Value} (y : Str) : (if y = Str.ofString "mark" then v2 else if y = Str.ofString "size" then v1 else if y = Str.ofString "size" then u1 else if y = Str.ofString "mark" then u2 else m y) = if y = Str.ofString "size" then v1 else if y = Str.ofString "mark" then v2 else m y := by
  by_cases h1 : y = Str.ofString "mark"
  · subst h1; rfl
  · by_cases h2 : y = Str.ofString "size"
    · subst h2; rfl
    · simp only [h1, h2, if_false]
theorem fr_mk2 {h₀ h : Heap} {L : Addr} {v1 v2 u1 u2 : Option Value} {m : Str → Option Value} (F : Fr h₀ L h (fun y => if y = Str.ofString "mark" then v2 else if y = Str.ofString "size" then v1 else if y = Str.ofString "size" then u1 else if y = Str.ofString "mark" then u2 else m y)) :
    Fr h₀ L h (fun y => if y = Str.ofString "size" then v1 else if y = Str.ofString "mark" then v2 else m y) := Fr.congr F fun y => mk2 y
/-- the call of the generator, from a frame with one list of its own -/
theorem gi_post {w : World} {A : Around} {s : Shared} {p : Program} {loose : List Str} {mean : ExcName → Option Value} {mg mb : Str → Option Value} {h : Heap} {L M l : Addr} {m : Str → Option Value} {oM : Obj} {tk0 : Nat}
    {Q E : Value → Shared → Prop} {vs : List Value} {nn : Nat} {pre post : List Int} {inf : Bool}
    (X : (hd.heap_1 w.params).In s.heap) (T : Top p loose mean mg mb s.heap) (F : Fr s.heap L h m) (N : News s.heap L h [(M, oM)])
    (hh : A.handled = none) (hroom : A.depth + 5 < recursionLimit) (hl : h.get? l = some (listOf vs.toArray nn)) (hi : IntsAre vs (pre ++ post)) (hpre : ∀ x ∈ pre, x ≠ 127 ∧ x ≠ 0) (hlen : pre.length < 900)
    (hinf : inf = true → pre ≠ [] ∧ ∃ r, post = 0 :: r) (hfin : inf = false → post = [] ∨ ∃ r, post = 127 :: r) (hlL : l ≠ L) (hlM : l ≠ M)
    (hq : ∀ a gi h' tk gs C Z, GAt w A a gi [L, M] C Z pre inf 0 { s with heap := h', toks := tk, gens := gs } → C ≠ L → C ≠ M → (∀ b o, s.heap.get? b = some o → b ≠ C ∧ Z b) → Z L → Z M → a ∉ [L, M] → a ≠ C → Z a → (AllBare s.gens → AllBare gs) →
      News s.heap L h' [(M, oM)] → Fr s.heap L h' m → Q (.ref a) { s with heap := h', toks := tk, gens := gs }) :
    wpAny (model PG w) A (call (.ref 28) [.ref l]) Q E { s with heap := h, toks := tk0 } := by
  obtain ⟨oL, _, _, hoL, _⟩ := id F.ns
  have hoM : h.get? M = some oM := N.get (.head _)
  have hLn : s.heap.get? L = none := Heap.get?_none_of_le F.above
  have hMn : s.heap.get? M = none := (N _ (.head _)).2.2
  have hLM : ∀ b ∈ [L, M], ∃ o, h.get? b = some o := fun b hb => by
    simp only [List.mem_cons, List.not_mem_nil, or_false] at hb
    rcases hb with rfl | rfl
    · exact ⟨_, hoL⟩
    · exact ⟨_, hoM⟩
  refine gi_spec (s := { s with heap := h, toks := tk0 }) X T F.keep hh hroom hl hi hpre hlen hinf hfin hLM ?_ ?_ fun a gi h' tk gs C Z G k hC ha haC hZa hZ hb => ?_
  · simp only [List.mem_cons, List.not_mem_nil, or_false, not_or]
    exact ⟨hlL, hlM⟩
  · intro b hb
    simp only [List.mem_cons, List.not_mem_nil, or_false] at hb
    rcases hb with rfl | rfl
    · exact hLn
    · exact hMn
  · dsimp only at k hC ha hZ
    refine hq a gi h' tk gs C Z G (fun q => ?_) (fun q => ?_) (fun b o e => ⟨fun q => ?_, hZ b o (F.keep b o e)⟩) (hZ _ _ hoL) (hZ _ _ hoM) (fun q => ?_) haC hZa hb (N.keeps k) (F.keeps k)
    · rw [q, hoL] at hC; cases hC
    · rw [q, hoM] at hC; cases hC
    · rw [← q, F.keep b o e] at hC; cases hC
    · obtain ⟨o, e⟩ := hLM a q
      rw [e] at ha; cases ha
theorem wpAny_roomy {M : Model} {A : Around} {α : Type} {m : Sem α} {Q : α → Shared → Prop} {E : Value → Shared → Prop} {s : Shared} {k : Nat} (h : A.handled = none) (hr : A.depth + k < recursionLimit) (q : ∀ d f g u, d + k < recursionLimit → wpAny M ⟨none, d, f, g, u⟩ m Q E s) : wpAny M A m Q E s := by
  cases A
  dsimp only at h hr
  subst h
  exact q _ _ _ _ hr
namespace Mk
abbrev V : Type := (World) × (Nat) × (Option (List Env)) × (Option (List Code)) × (Nat) × (Shared) × (Program) × (List Str) × (ExcName → Option Value) × (Str → Option Value) × (Str → Option Value) × (Heap) × (Value → Shared → Prop) × (Value → Shared → Prop) × (Nat) × (Nat) × (Nat) × (Tok) × (Tok) × (Tok) × (Tok)
def Stmt (w : World) (dA : Nat) (fA : Option (List Env)) (gA : Option (List Code)) (uA : Nat) (s : Shared) (p : Program) (loose : List Str) (mean : ExcName → Option Value) (mg : Str → Option Value) (mb : Str → Option Value) (g : Heap) (Q : Value → Shared → Prop) (E : Value → Shared → Prop) (f : Nat) (k : Nat) (b : Nat) (tf : Tok) (ts : Tok) (tb : Tok) (tn : Tok) : Prop := ∀ (kind : Nat) (X : (hd.heap_1 w.params).In g) (T : Top p loose mean mg mb g) (hk : ∀ b o, g.get? b = some o → s.heap.get? b = some o) (hroom : dA + 20 < recursionLimit) (hf1 : 1 ≤ f) (hf2 : f ≤ 100) (hk1 : 1 ≤ k) (hk2 : k ≤ 100) (hb1 : b ≤ 100) (hkd : kind < 3) (h : ∀ D vs nn h' tk gs, h'.get? D = some (listOf vs.toArray nn) → IntsAre vs (mksOf f k b) → s.heap.get? D = none → (∀ b o, s.heap.get? b = some o → h'.get? b = some o) → (AllBare s.gens → AllBare gs) → Q (.ref D) { s with heap := h', toks := tk, gens := gs }),
    wpAny (model PG w) (Around.mk none dA fA gA uA) (call (.ref 149) [.int (f : Int) tf, .int (k : Int) ts, .int (b : Int) tb, .int (kind : Int) tn]) Q E s
theorem ne : Nonempty V := ⟨((Classical.choice neW), 0, none, none, 0, {}, default, [], (fun _ => none), (fun _ => none), (fun _ => none), {}, (fun _ _ => True), (fun _ _ => True), 0, 0, 0, 0, 0, 0, 0)⟩
noncomputable def c : V := pick ne fun v => Stmt v.1 v.2.1 v.2.2.1 v.2.2.2.1 v.2.2.2.2.1 v.2.2.2.2.2.1 v.2.2.2.2.2.2.1 v.2.2.2.2.2.2.2.1 v.2.2.2.2.2.2.2.2.1 v.2.2.2.2.2.2.2.2.2.1 v.2.2.2.2.2.2.2.2.2.2.1 v.2.2.2.2.2.2.2.2.2.2.2.1 v.2.2.2.2.2.2.2.2.2.2.2.2.1 v.2.2.2.2.2.2.2.2.2.2.2.2.2.1 v.2.2.2.2.2.2.2.2.2.2.2.2.2.2.1 v.2.2.2.2.2.2.2.2.2.2.2.2.2.2.2.1 v.2.2.2.2.2.2.2.2.2.2.2.2.2.2.2.2.1 v.2.2.2.2.2.2.2.2.2.2.2.2.2.2.2.2.2.1 v.2.2.2.2.2.2.2.2.2.2.2.2.2.2.2.2.2.2.1 v.2.2.2.2.2.2.2.2.2.2.2.2.2.2.2.2.2.2.2.1 v.2.2.2.2.2.2.2.2.2.2.2.2.2.2.2.2.2.2.2.2
@[irreducible] noncomputable def w : World := c.1
@[irreducible] noncomputable def dA : Nat := c.2.1
@[irreducible] noncomputable def fA : Option (List Env) := c.2.2.1
@[irreducible] noncomputable def gA : Option (List Code) := c.2.2.2.1
@[irreducible] noncomputable def uA : Nat := c.2.2.2.2.1
@[irreducible] noncomputable def s : Shared := c.2.2.2.2.2.1
@[irreducible] noncomputable def p : Program := c.2.2.2.2.2.2.1
@[irreducible] noncomputable def loose : List Str := c.2.2.2.2.2.2.2.1
@[irreducible] noncomputable def mean : ExcName → Option Value := c.2.2.2.2.2.2.2.2.1
@[irreducible] noncomputable def mg : Str → Option Value := c.2.2.2.2.2.2.2.2.2.1
@[irreducible] noncomputable def mb : Str → Option Value := c.2.2.2.2.2.2.2.2.2.2.1
@[irreducible] noncomputable def g : Heap := c.2.2.2.2.2.2.2.2.2.2.2.1
@[irreducible] noncomputable def Q : Value → Shared → Prop := c.2.2.2.2.2.2.2.2.2.2.2.2.1
@[irreducible] noncomputable def E : Value → Shared → Prop := c.2.2.2.2.2.2.2.2.2.2.2.2.2.1
@[irreducible] noncomputable def f : Nat := c.2.2.2.2.2.2.2.2.2.2.2.2.2.2.1
@[irreducible] noncomputable def k : Nat := c.2.2.2.2.2.2.2.2.2.2.2.2.2.2.2.1
@[irreducible] noncomputable def b : Nat := c.2.2.2.2.2.2.2.2.2.2.2.2.2.2.2.2.1
@[irreducible] noncomputable def tf : Tok := c.2.2.2.2.2.2.2.2.2.2.2.2.2.2.2.2.2.1
@[irreducible] noncomputable def ts : Tok := c.2.2.2.2.2.2.2.2.2.2.2.2.2.2.2.2.2.2.1
@[irreducible] noncomputable def tb : Tok := c.2.2.2.2.2.2.2.2.2.2.2.2.2.2.2.2.2.2.2.1
@[irreducible] noncomputable def tn : Tok := c.2.2.2.2.2.2.2.2.2.2.2.2.2.2.2.2.2.2.2.2
inductive P1 (M S : Addr) (d1 : Nat) (f1 : Option (List Env)) (g1 : Option (List Code)) (u1 kind : Nat) (xv : Value) (s₁ : Shared) : Prop
  | mk (pre : List Int) (inf : Bool) (a : Addr) (gi : Nat) (h : Heap) (tk : Nat) (gs : Array GenState) (C : Addr) (Z : Addr → Prop) (e0 : xv = .ref a) (e1 : s₁ = { s with heap := h, toks := tk, gens := gs }) (e2 : GAt w ⟨none, d1, f1, g1, u1⟩ a gi [s.heap.objs.size, M] C Z pre inf 0 { s with heap := h, toks := tk, gens := gs }) (e3 : C ≠ s.heap.objs.size) (e4 : C ≠ M) (e5 : (∀ b o, s.heap.get? b = some o → b ≠ C ∧ Z b)) (e6 : Z s.heap.objs.size) (e7 : Z M) (e8 : a ∉ [s.heap.objs.size, M]) (e9 : a ≠ C) (e10 : Z a) (e11 : (AllBare s.gens → AllBare gs)) (e12 : (∀ j, j < (sgOf f k b).length → gOut pre inf j = (sgOf f k b)[j]?)) (e13 : (kind ≠ 0 → gOut pre inf (sgOf f k b).length = none)) (e14 : (kind = 0 → gOut pre inf (sgOf f k b).length = some (if f ≤ b then (k : Int) else f))) (e15 : News s.heap s.heap.objs.size h [(M, listOf #[] 0)]) (e16 : Fr s.heap s.heap.objs.size h (fun y => if y = Str.ofString "marks" then some (.ref M) else if y = Str.ofString "single" then some (.ref S) else if y = Str.ofString "first" then some (.int (f : Int) tf) else if y = Str.ofString "step" then some (.int (k : Int) ts) else if y = Str.ofString "bound" then some (.int (b : Int) tb) else if y = Str.ofString "kind" then some (.int (kind : Int) tn) else none))
inductive P2 (M S : Addr) (d1 : Nat) (f1 : Option (List Env)) (g1 : Option (List Code)) (u1 kind : Nat) (a : Addr) (gi : Nat) (C : Addr) (Z : Addr → Prop) (pre : List Int) (inf : Bool) (n : Nat) (s' : Shared) : Prop
  | mk (j : Nat) (vsM : List Value) (nM : Nat) (h : Heap) (tk : Nat) (gs : Array GenState) (uS uM : Option Value) (e0 : n + j = 200) (e1 : j ≤ (sgOf f k b).length) (e2 : s' = { s with heap := h, toks := tk, gens := gs }) (e3 : GAt w ⟨none, d1, f1, g1, u1⟩ a gi [s.heap.objs.size, M] C Z pre inf j { s with heap := h, toks := tk, gens := gs }) (e4 : (AllBare s.gens → AllBare gs)) (e5 : News s.heap s.heap.objs.size h [(M, listOf vsM.toArray nM)]) (e6 : IntsAre vsM ((mksOf f k b).take j)) (e7 : Fr s.heap s.heap.objs.size h (fun y => if y = Str.ofString "size" then uS else if y = Str.ofString "mark" then uM else if y = Str.ofString "marks" then some (.ref M) else if y = Str.ofString "single" then some (.ref S) else if y = Str.ofString "first" then some (.int (f : Int) tf) else if y = Str.ofString "step" then some (.int (k : Int) ts) else if y = Str.ofString "bound" then some (.int (b : Int) tb) else if y = Str.ofString "kind" then some (.int (kind : Int) tn) else none))
set_option maxHeartbeats 4000000 in
theorem spec_c : Stmt w dA fA gA uA s p loose mean mg mb g Q E f k b tf ts tb tn := by
  intro kind X T hk hroom hf1 hf2 hk1 hk2 hb1 hkd h
  refine wpAny_call ?_
  refine' enterC (K := hd.heap_1 w.params) X T hk (binds := [("first", .int (f : Int) tf), ("step", .int (k : Int) ts), ("bound", .int (b : Int) tb), ("kind", .int (kind : Int) tn)]) ?ho ?hcd ?hroom ?hb ?hloc ?c1 ?c2 ?c3 ?c4 ?_
  case ho => k_is
  case hcd => k_is
  case hroom => dsimp only; lia
  case hb => exact bindsTo_peek (X.keeps hk) (fun S => by kernel_rfl)
  case hloc => exact locs rfl
  case c1 => exact rfl
  case c2 => exact rfl
  case c3 => exact rfl
  case c4 => decide
  intro h₁ hns hk₁
  have F : Fr s.heap s.heap.objs.size h₁ _ := ⟨hns, hk₁, Nat.le_refl _⟩
  have N : News s.heap s.heap.objs.size h₁ [] := News.nil
  have X' := X.keeps hk
  have T' := T.keeps hk
  clear hns hk₁ X T
  have hq0 : f ≤ b → 0 ≤ ((b : Int) - (f : Int)).fdiv (k : Int) ∧ ((b : Int) - (f : Int)).fdiv (k : Int) ≤ 100 ∧ (((b : Int) - (f : Int)).fdiv (k : Int)).toNat = (b - f) / k := fun q => by
    have e1 : (b : Int) - (f : Int) = ((b - f : Nat) : Int) := by lia
    rw [Int.fdiv_eq_ediv_of_nonneg _ (by lia), e1, ← Int.natCast_ediv]
    have := Nat.div_le_self (b - f) k
    generalize (b - f) / k = z at this ⊢
    lia
  refine wpAny_execs_cons ?_
  refine wpAny_mono (Q := fun f' s' => Stop (f' = .next ∧ ∃ S vs n h' tk, s' = { s with heap := h', toks := tk } ∧ IntsAre vs (sgOf f k b) ∧ News s.heap s.heap.objs.size h' [(S, listOf vs.toArray n)] ∧
    Fr s.heap s.heap.objs.size h' (fun y => if y = Str.ofString "single" then some (.ref S) else if y = Str.ofString "first" then some (.int (f : Int) tf) else if y = Str.ofString "step" then some (.int (k : Int) ts) else if y = Str.ofString "bound" then some (.int (b : Int) tb) else if y = Str.ofString "kind" then some (.int (kind : Int) tn) else none))) ?_ ?_ (fun _ _ x => x)
  · by_cases hfb : f ≤ b
    · obtain ⟨q1, q2, q3⟩ := hq0 hfb
      k_steps
      any_goals (exfalso; lia)
      rename Fr _ _ _ _ => F2
      rename News _ _ _ _ => N2
      rename IntsAre _ ([(f : Int)] ++ _) => hI2
      refine Stop.go ⟨trivial, _, _, _, _, _, rfl, ?_, fun p hp => N2 p (by rw [List.mem_singleton.mp hp]; exact .head _), Fr.congr F2 fun y => ?_⟩
      · have e : (f : Int) :: List.replicate ((b - f) / k) (k : Int) = [(f : Int)] ++ (List.replicate (((b : Int) - (f : Int)).fdiv (k : Int)).toNat [(k : Int)]).flatten := by
          rw [q3, flat_rep]; rfl
        unfold sgOf
        rw [if_pos hfb, e]
        exact hI2
      · exact mk_map y
    · k_steps
      any_goals (exfalso; lia)
      rename Fr _ _ _ _ => F2
      rename News _ _ _ _ => N2
      refine Stop.go ⟨trivial, _, [], _, _, _, rfl, ?_, N2, Fr.congr F2 fun y => ?_⟩
      · unfold sgOf
        rw [if_neg hfb]
        exact .nil
      · exact mk_map y
  rintro f' s' ⟨rfl, S, vs, nS, h2, tk2, rfl, hI, N2, F2⟩
  dsimp only
  k_steps
  rename Addr => M
  rename Fr _ _ _ _ => F3'
  rename News _ _ _ _ => N3'
  rename (@LT.lt Nat _ S _) => hSM'
  rename Heap => h3
  obtain ⟨M, hSM, F3, N3⟩ : ∃ M, @LT.lt Nat _ S M ∧ Fr s.heap s.heap.objs.size h3 (fun y => if y = Str.ofString "marks" then some (.ref M) else if y = Str.ofString "single" then some (.ref S) else if y = Str.ofString "first" then some (.int (f : Int) tf) else if y = Str.ofString "step" then some (.int (k : Int) ts) else if y = Str.ofString "bound" then some (.int (b : Int) tb) else if y = Str.ofString "kind" then some (.int (kind : Int) tn) else none) ∧
    News s.heap s.heap.objs.size h3 [(M, listOf #[] 0), (S, listOf vs.toArray nS)] := ⟨_, hSM', F3', N3'⟩
  clear F3' N3' hSM'
  have hsl : (sgOf f k b).length ≤ 101 := by
    unfold sgOf
    split
    · have := Nat.div_le_self (b - f) k
      simp only [List.length_cons, List.length_replicate]
      generalize (b - f) / k = z at this ⊢
      lia
    · simp
  have hvl := hI.length
  refine Stop.go ?_
  refine wpAny_roomy (k := 15) rfl (by show dA + 1 + 15 < _; lia) fun d1 f1 g1 u1 hr => ?_
  refine wpAny_For ?_
  refine wpAny_mono (Q := fun xv s₁ => Stop (P1 M S d1 f1 g1 u1 kind xv s₁)) ?_ ?_ (fun _ _ x => x)
  · rcases (show kind = 0 ∨ kind = 1 ∨ kind = 2 by lia) with rfl | rfl | rfl
    · k_steps
      rename Fr _ _ _ _ => F4
      rename News _ _ _ _ => N4
      refine Stop.go ?_
      refine gi_post (pre := [(f : Int), k]) (post := [0, 9]) (inf := true) X' T' F4 (fun p hp => N4 p (by rw [List.mem_singleton.mp hp]; exact .tail _ (.tail _ (.tail _ (.tail _ (.head _)))))) rfl (by show d1 + 5 < _; lia) (N4.get (.tail _ (.tail _ (.tail _ (.head _)))))
        (.cons _ _ (.cons _ _ (.cons _ _ (.cons _ _ .nil)))) ?_ (by simp) (fun _ => ⟨List.cons_ne_nil _ _, _, rfl⟩) (fun e => nomatch e) (N4 _ (.tail _ (.tail _ (.tail _ (.head _))))).2.1 (Nat.ne_of_gt (by lia)) ?_
      · intro x hx
        simp only [List.mem_cons, List.not_mem_nil, or_false] at hx
        lia
      · intro a gi h' tk gs C Z G c1 c2 c3 c4 c5 c6 c7 c8 c9 N5 F5
        refine Stop.go ⟨_, _, a, gi, h', tk, gs, C, Z, rfl, rfl, G, c1, c2, c3, c4, c5, c6, c7, c8, c9, fun j hj => by rw [out0, sg_get hj], fun q => absurd rfl q, fun _ => ?_, N5, F5⟩
        rw [out0]
        have := sg_pos (f := f) (k := k) (b := b)
        by_cases q : f ≤ b
        · rw [if_pos q, if_neg (by have := this.mpr q; lia)]
        · rw [if_neg q, if_pos (by have := mt this.mp q; lia)]
    · k_steps
      rename Fr _ _ _ _ => F4
      rename News _ _ _ _ => N4
      refine Stop.go ?_
      refine gi_post (pre := sgOf f k b) (post := [127, 1]) (inf := false) X' T' F4 (fun p hp => N4 p (by rw [List.mem_singleton.mp hp]; exact .tail _ (.tail _ (.tail _ (.tail _ (.head _)))))) rfl (by show d1 + 5 < _; lia) (N4.get (.tail _ (.head _)))
        (by assumption) ?_ (by lia) (fun e => nomatch e) (fun _ => .inr ⟨_, rfl⟩) (N4 _ (.tail _ (.head _))).2.1 (Nat.ne_of_gt (by lia)) ?_
      · intro x hx
        have := sg_mem hx
        lia
      · intro a gi h' tk gs C Z G c1 c2 c3 c4 c5 c6 c7 c8 c9 N5 F5
        exact Stop.go ⟨_, _, a, gi, h', tk, gs, C, Z, rfl, rfl, G, c1, c2, c3, c4, c5, c6, c7, c8, c9, fun j hj => outN _ _, fun _ => by rw [outN, List.getElem?_eq_none (Nat.le_refl _)], fun q => absurd q (by decide), N5, F5⟩
    · k_steps
      rename Fr _ _ _ _ => F4
      rename News _ _ _ _ => N4
      refine Stop.go ?_
      refine gi_post (pre := sgOf f k b) (post := []) (inf := false) X' T' F4 (fun p hp => N4 p (by rw [List.mem_singleton.mp hp]; exact .tail _ (.tail _ (.tail _ (.tail _ (.head _)))))) rfl (by show d1 + 5 < _; lia) (N4.get (.tail _ (.tail _ (.tail _ (.tail _ (.tail _ (.head _)))))))
        (by rw [List.append_nil]; assumption) ?_ (by lia) (fun e => nomatch e) (fun _ => .inl rfl) (N4 _ (.tail _ (.tail _ (.tail _ (.tail _ (.tail _ (.head _))))))).2.1 (Nat.ne_of_lt (by lia)) ?_
      · intro x hx
        have := sg_mem hx
        lia
      · intro a gi h' tk gs C Z G c1 c2 c3 c4 c5 c6 c7 c8 c9 N5 F5
        exact Stop.go ⟨_, _, a, gi, h', tk, gs, C, Z, rfl, rfl, G, c1, c2, c3, c4, c5, c6, c7, c8, c9, fun j hj => outN _ _, fun _ => by rw [outN, List.getElem?_eq_none (Nat.le_refl _)], fun q => absurd q (by decide), N5, F5⟩
  rintro xv s₁ ⟨pre, inf, a, gi, h5, tk5, gs5, C, Z, rfl, rfl, G, c1, c2, c3, c4, c5, c6, c7, c8, c9, o1, o2, o3, N5, F5⟩
  refine wpAny_pyIter_gen G.1 ?_
  refine forLoop_stop (fun n s' => P2 M S d1 f1 g1 u1 kind a gi C Z pre inf n s') ?_ 200
    ⟨0, [], 0, h5, tk5, gs5, none, none, rfl, Nat.zero_le _, rfl, G, c9, N5, .nil, Fr.congr F5 fun y => ?_⟩
  case refine_2 =>
    by_cases q1 : y = Str.ofString "size"
    · subst q1; rfl
    by_cases q2 : y = Str.ofString "mark"
    · subst q2; rfl
    rw [if_neg q1, if_neg q2]
  clear G N5 F5
  rintro n s₂ ⟨j, vsM, nM, h6, tk6, gs6, uS, uM, hn, hj, rfl, G, hb6, N6, hIM, F6⟩
  have hex : ∀ b ∈ [s.heap.objs.size, M], ∃ o, h6.get? b = some o := fun b hb => by
    simp only [List.mem_cons, List.not_mem_nil, or_false] at hb
    rcases hb with rfl | rfl
    · obtain ⟨oL, _, _, hoL, _⟩ := id F6.ns
      exact ⟨_, hoL⟩
    · exact ⟨_, N6.get (.head _)⟩
  have keepN : ∀ h', (∀ b o, Z b → b ≠ C → h6.get? b = some o → h'.get? b = some o) → News s.heap s.heap.objs.size h' [(M, listOf vsM.toArray nM)] := fun h' kk p hp => by
    rw [List.mem_singleton.mp hp]
    exact ⟨kk _ _ c5 (Ne.symm c2) (N6.get (.head _)), (N6 _ (.head _)).2⟩
  have keepF := fun h' (kk : ∀ b o, Z b → b ≠ C → h6.get? b = some o → h'.get? b = some o) => (⟨F6.ns.at' fun o e => kk _ o c4 (Ne.symm c1) e, fun b o e => kk b o (c3 b o e).2 (c3 b o e).1 (F6.keep b o e), F6.above⟩ : Fr s.heap s.heap.objs.size h' _)
  refine gNext rfl (T'.nolimit.keeps F6.keep) (by show d1 < _; lia) (by unfold gLots; lia) c8 c7 G hex (fun x t h7 tk7 gs7 ex G7 k7 hb7 => ?_) (fun h7 tk7 gs7 ex k7 hb7 => ?_)
  · dsimp only at k7 ⊢
    refine wpAny_of_eq (rfl : letOwnedTupleGo _ _ _ = pure ()) ?_
    have N7 := keepN h7 k7
    have F7 := keepF h7 k7
    clear N6 F6 keepN keepF G
    obtain ⟨own, N7o, hoff, hown⟩ := own_of N7
    have okeep := fun (h' : Heap) m' l2 (F' : Fr s.heap s.heap.objs.size h' m') (N' : News s.heap s.heap.objs.size h' (l2 ++ own)) => own_keep F7 F' N' hown
    clear N7
    have hvM : vsM.length = j := by
      rw [hIM.length, List.length_take, mks_len]
      lia
    have hx : x = if j = 0 then (f : Int) else k := by
      rcases Nat.lt_or_ge j (sgOf f k b).length with q | q
      · have e1 := o1 j q
        rw [ex, sg_get q] at e1
        exact Option.some.inj e1
      · have e2 : j = (sgOf f k b).length := by lia
        by_cases q0 : kind = 0
        · have e3 := o3 q0
          rw [← e2, ex] at e3
          rw [Option.some.inj e3]
          have := sg_pos (f := f) (k := k) (b := b)
          by_cases q : f ≤ b
          · rw [if_pos q, if_neg (by have := this.mpr q; lia)]
          · rw [if_neg q, if_pos (by have := mt this.mp q; lia)]
        · have e3 := o2 q0
          rw [← e2, ex] at e3
          cases e3
    have hmark := mark_val hj hx
    by_cases hjc : j < (sgOf f k b).length
    · have hle := mark_in hjc
      have hjb := sg_len_le (k := k) (b := b) hf1
      have h1 : (List.drop ((List.take j (mksOf f k b)).length - 1) (List.take j (mksOf f k b))).sum + x ≤ (b : Int) := by rw [hmark]; lia
      have h2 : (vsM.length : Int) ≤ (b : Int) := by lia
      k_steps
      all_goals rename Fr _ _ _ _ => F8
      all_goals rename News _ _ _ _ => N8
      all_goals (
        rename (∀ (p : Addr × Obj), p ∈ _ → p.1 < _) => hlt
        refine append_K F8 N8 (.tail (Nat.ne_of_gt (hlt _ (List.mem_append.mpr (.inl (.head _))))) (.head fun p hp => hoff p hp M (.head _))) ?_ (by simp only [List.size_toArray, sizeLine_eq]; lia)
        intro h9 F9 N9
        refine wpAny_execs_nil ?_
        refine Stop.go ⟨n - 1, by lia, j + 1, vsM ++ [?vv], nM + 1, h9, _, gs7, some (.int x t), _, by lia, hjc, rfl, G7.keep c6 (okeep _ _ [_, _] F9 N9) rfl, fun z => hb7 (hb6 z), ?_, ?_, fr_mk2 F9⟩
        case refine_1 =>
          intro p hp
          rw [List.mem_singleton.mp hp]
          have hN := N9 _ (.tail _ (.head _))
          rw [List.push_toArray] at hN
          exact hN
        case refine_2 =>
          rw [List.take_add_one, mks_get hjc]
          refine IntsAre.append hIM ?_
          rw [← hmark]
          exact .cons _ _ .nil)
    · have hk0 : kind = 0 := by
        by_cases q0 : kind = 0
        · exact q0
        · have e3 := o2 q0
          have e2 : j = (sgOf f k b).length := by lia
          rw [← e2, ex] at e3
          cases e3
      have hgt := mark_out hk1 (show j = (sgOf f k b).length by lia)
      have h1 : (b : Int) < (List.drop ((List.take j (mksOf f k b)).length - 1) (List.take j (mksOf f k b))).sum + x := by rw [hmark]; lia
      k_steps
      · rename Fr _ _ _ _ => F8
        rename News _ _ _ _ => N8
        unfold Stop
        k_steps
        rename Fr _ _ _ _ => F8
        rename News _ _ _ _ => N8
        exact h M vsM nM _ _ gs7 (N8.get (.tail _ (.head _))) (by rw [List.take_of_length_le (by rw [mks_len]; lia)] at hIM; exact hIM) (N8 _ (.tail _ (.head _))).2.2 F8.keep (fun z => hb7 (hb6 z))
      · exact absurd hk0 (by lia)
  · dsimp only
    refine wpAny_execs_nil ?_
    have N7 := keepN h7 k7
    have F7 := keepF h7 k7
    have hjc : j = (sgOf f k b).length := by
      rcases Nat.lt_or_ge j (sgOf f k b).length with q | q
      · rw [o1 j q, sg_get q] at ex
        cases ex
      · lia
    clear N6 F6 keepN keepF G
    dsimp only
    unfold Stop
    k_steps
    exact h M vsM nM _ _ gs7 (N7.get (.head _)) (by rw [List.take_of_length_le (by rw [mks_len]; lia)] at hIM; exact hIM) (N7 _ (.head _)).2.2 F7.keep (fun z => hb7 (hb6 z))
theorem all : Stmt c.1 c.2.1 c.2.2.1 c.2.2.2.1 c.2.2.2.2.1 c.2.2.2.2.2.1 c.2.2.2.2.2.2.1 c.2.2.2.2.2.2.2.1 c.2.2.2.2.2.2.2.2.1 c.2.2.2.2.2.2.2.2.2.1 c.2.2.2.2.2.2.2.2.2.2.1 c.2.2.2.2.2.2.2.2.2.2.2.1 c.2.2.2.2.2.2.2.2.2.2.2.2.1 c.2.2.2.2.2.2.2.2.2.2.2.2.2.1 c.2.2.2.2.2.2.2.2.2.2.2.2.2.2.1 c.2.2.2.2.2.2.2.2.2.2.2.2.2.2.2.1 c.2.2.2.2.2.2.2.2.2.2.2.2.2.2.2.2.1 c.2.2.2.2.2.2.2.2.2.2.2.2.2.2.2.2.2.1 c.2.2.2.2.2.2.2.2.2.2.2.2.2.2.2.2.2.2.1 c.2.2.2.2.2.2.2.2.2.2.2.2.2.2.2.2.2.2.2.1 c.2.2.2.2.2.2.2.2.2.2.2.2.2.2.2.2.2.2.2.2 := by
  have h := spec_c
  unfold w dA fA gA uA s p loose mean mg mb g Q E f k b tf ts tb tn at h
  exact h
end Mk
theorem marks_spec {w : World} {A : Around} {s : Shared} {p : Program} {loose : List Str} {mean : ExcName → Option Value} {mg mb : Str → Option Value} {g : Heap}
    {Q E : Value → Shared → Prop} {f k b kind : Nat} {tf ts tb tn : Tok}
    (X : (hd.heap_1 w.params).In g) (T : Top p loose mean mg mb g) (hk : ∀ b o, g.get? b = some o → s.heap.get? b = some o)
    (hh : A.handled = none) (hroom : A.depth + 20 < recursionLimit) (hf1 : 1 ≤ f) (hf2 : f ≤ 100) (hk1 : 1 ≤ k) (hk2 : k ≤ 100) (hb1 : b ≤ 100) (hkd : kind < 3)
    (h : ∀ D vs nn h' tk gs, h'.get? D = some (listOf vs.toArray nn) → IntsAre vs (mksOf f k b) → s.heap.get? D = none → (∀ b o, s.heap.get? b = some o → h'.get? b = some o) → (AllBare s.gens → AllBare gs) → Q (.ref D) { s with heap := h', toks := tk, gens := gs }) :
    wpAny (model PG w) A (call (.ref 149) [.int (f : Int) tf, .int (k : Int) ts, .int (b : Int) tb, .int (kind : Int) tn]) Q E s := by
  obtain ⟨hA, dA, fA, gA, uA⟩ := A
  dsimp only at hh
  subst hh
  exact of_pick Mk.ne (fun v => Mk.Stmt v.1 v.2.1 v.2.2.1 v.2.2.2.1 v.2.2.2.2.1 v.2.2.2.2.2.1 v.2.2.2.2.2.2.1 v.2.2.2.2.2.2.2.1 v.2.2.2.2.2.2.2.2.1 v.2.2.2.2.2.2.2.2.2.1 v.2.2.2.2.2.2.2.2.2.2.1 v.2.2.2.2.2.2.2.2.2.2.2.1 v.2.2.2.2.2.2.2.2.2.2.2.2.1 v.2.2.2.2.2.2.2.2.2.2.2.2.2.1 v.2.2.2.2.2.2.2.2.2.2.2.2.2.2.1 v.2.2.2.2.2.2.2.2.2.2.2.2.2.2.2.1 v.2.2.2.2.2.2.2.2.2.2.2.2.2.2.2.2.1 v.2.2.2.2.2.2.2.2.2.2.2.2.2.2.2.2.2.1 v.2.2.2.2.2.2.2.2.2.2.2.2.2.2.2.2.2.2.1 v.2.2.2.2.2.2.2.2.2.2.2.2.2.2.2.2.2.2.2.1 v.2.2.2.2.2.2.2.2.2.2.2.2.2.2.2.2.2.2.2.2) Mk.all (w, dA, fA, gA, uA, s, p, loose, mean, mg, mb, g, Q, E, f, k, b, tf, ts, tb, tn) kind X T hk hroom hf1 hf2 hk1 hk2 hb1 hkd h
end RS
end PartM1

section PartL3
open PySem PySem.W PyProof.Rows PySem.Calls
set_option Elab.async false
set_option maxRecDepth 100000
namespace RS
def Bas (g h : Heap) : Prop := Sub g h
theorem Sit.fewer {env : Env} {its xs : List (Addr × Obj)} {G h : Heap} {m : Str → Option Value} (S : Sit env (its ++ xs) G h m) : Sit env xs G h m :=
  ⟨S.v, S.sub, S.loc, S.cel, fun p hp => S.oth p (List.mem_append.mpr (.inr hp)), fun p hp => S.ne p (List.mem_append.mpr (.inr hp)), S.apart, S.nc, S.nd, by have := S.xn; rw [List.map_append] at this; exact (List.nodup_append.mp this).2.1⟩
theorem Sit.off {env : Env} {xs : List (Addr × Obj)} {G h h' : Heap} {m : Str → Option Value} {wr : List Addr} (S : Sit env xs G h m) (k : ∀ b o, b ∉ wr → h.get? b = some o → h'.get? b = some o) (hG : ∀ b o, G.get? b = some o → b ∉ wr)
    (hx : ∀ p ∈ xs, p.1 ∉ wr) (hl : env.locals ∉ wr) (hc : ∀ x c, env.cells.lookup x = some c → c ∉ wr) : Sit env xs G h' m := by
  refine ⟨?_, fun b o e => k b o (hG b o e) (S.sub b o e), S.loc, S.cel, fun p hp => ⟨(S.oth p hp).1, k _ _ (hx p hp) (S.oth p hp).2⟩, S.ne, S.apart, S.nc, S.nd, S.xn⟩
  obtain ⟨⟨ml, a, b⟩, c⟩ := S.v
  exact ⟨⟨ml, a.at' fun o e => k _ o hl e, b⟩, fun x d e => let ⟨o, ho, hd⟩ := c x d e; ⟨o, k d o (hc x d e) ho, hd⟩⟩
/-- more that turns is named -/
theorem Sit.more {env : Env} {xs : List (Addr × Obj)} {G h : Heap} {m : Str → Option Value} (S : Sit env xs G h m) (its : List (Addr × Obj)) (h1 : ∀ p ∈ its, h.get? p.1 = some p.2) (h2 : ∀ p ∈ its, p.1 ≠ env.locals ∧ ∀ x c, env.cells.lookup x = some c → p.1 ≠ c) (h3 : ∀ p ∈ its, p.1 ∉ xs.map (·.1)) (h4 : (its.map (·.1)).Nodup) :
    Sit env (its ++ xs) (hideAll h (Sit.offs env (its ++ xs))) h m ∧ ∀ b o, b ∉ its.map (·.1) → G.get? b = some o → (hideAll h (Sit.offs env (its ++ xs))).get? b = some o := by
  have hx := S.off_ex
  refine ⟨⟨S.v, fun b o e => of_hideAll _ e, hideAll_none _ (.head _), fun x c e => hideAll_none _ (.tail _ (List.mem_append.mpr (.inl (List.mem_map.mpr ⟨_, mem_of_lookup e, rfl⟩)))),
    fun p hp => ⟨hideAll_none _ (.tail _ (List.mem_append.mpr (.inr (List.mem_map_of_mem hp)))), ?_⟩, fun p hp => ?_, S.apart, S.nc, S.nd, ?_⟩, fun b o hb e => hideAll_get _ (S.sub b o e) fun q => ?_⟩
  · rcases List.mem_append.mp hp with q | q
    · exact h1 p q
    · exact (S.oth p q).2
  · rcases List.mem_append.mp hp with q | q
    · exact h2 p q
    · exact S.ne p q
  · rw [List.map_append]
    refine List.nodup_append.mpr ⟨h4, S.xn, fun a ha b hb e => ?_⟩
    obtain ⟨p, hp, rfl⟩ := List.mem_map.mp ha
    exact h3 p hp (e ▸ hb)
  · have q' : b ∈ Sit.offs env xs := by
      rcases List.mem_cons.mp q with q | q
      · exact q ▸ .head _
      rcases List.mem_append.mp q with q | q
      · exact .tail _ (List.mem_append.mpr (.inl q))
      · rw [List.map_append] at q
        rcases List.mem_append.mp q with q | q
        · exact absurd q hb
        · exact .tail _ (List.mem_append.mpr (.inr q))
    rw [(hx b q').1] at e; cases e
theorem its_of {h : Heap} : ∀ (wr : List Addr), (∀ b ∈ wr, ∃ o, h.get? b = some o) → ∃ its : List (Addr × Obj), its.map (·.1) = wr ∧ ∀ p ∈ its, h.get? p.1 = some p.2
  | [], _ => ⟨[], rfl, fun _ h => nomatch h⟩
  | b :: r, hx => by
    obtain ⟨o, e⟩ := hx b (.head _)
    obtain ⟨its, h1, h2⟩ := its_of r fun c hc => hx c (.tail _ hc)
    exact ⟨(b, o) :: its, by rw [List.map_cons, h1], List.forall_mem_cons.mpr ⟨e, h2⟩⟩
section
variable {prog : Program} {w : World} {A : Around} {E : Value → Shared → Prop}
def TgOk (env : Env) (x : Str) : Prop := (env.kindOf x = some .local ∧ env.cells.lookup x = none) ∨ (env.kindOf x = some .cell ∧ ∃ c, env.cells.lookup x = some c)
theorem sitStoreAll {env : Env} {xs : List (Addr × Obj)} {G : Heap} {K : Shared → Prop} (hk : env.scope.kind = .function) : ∀ (bs : List (Str × Value)) (m : Str → Option Value) (s : Shared), Sit env xs G s.heap m → (∀ p ∈ bs, TgOk env p.1) →
    (∀ h' tk, Sit env xs G h' (Stored env m bs) → K { s with heap := h', toks := tk }) → StoreAll prog w A env bs K s
  | [], m, s, S, _, h => h s.heap s.toks S
  | (x, v) :: r, m, s, S, ht, h => by
    have rest : ∀ h₁ tk₁, Sit env xs G h₁ (upd m x v) → StoreAll prog w A env r K { s with heap := h₁, toks := tk₁ } := fun h₁ tk₁ S₁ =>
      sitStoreAll hk r (upd m x v) _ S₁ (fun p hp => ht p (.tail _ hp)) fun h' tk S' => h h' tk S'
    rcases ht (x, v) (.head _) with ⟨h1, h3⟩ | ⟨h1, c, h3⟩
    · exact S.storeL hk h1 h3 fun h' tk S' => rest h' tk S'
    · exact S.storeC hk h1 h3 fun h' tk S' => rest h' tk S'

/-- what stands ready to feed a loop, over what stays -/
inductive SrcL (prog : Program) (w : World) (A : Around) (s : Shared) (G₀ : Heap) (target : PySem.Expr) (n : Nat) (B : Nat → List (Str × Value) → Prop) (it : Value) (s₂ : Shared) : Prop
  | intro (I : Addr) (wr : List Addr) (St : Nat → Heap → Prop) (h₂ : Heap) (tk₂ : Nat) (q0_ : s₂ = { s with heap := h₂, toks := tk₂ }) (q1_ : it = .ref I) (q2_ : Sub s.heap h₂) (q3_ : (∀ b ∈ wr, ∃ o, h₂.get? b = some o)) (q4_ : (∀ b ∈ wr, s.heap.get? b = none)) (q5_ : wr.Nodup) (q6_ : St 0 h₂) (q7_ : ∀ g, Sub G₀ g → Feed prog w A g target I wr n B St)
theorem SrcL.mk {s : Shared} {G₀ : Heap} {target : PySem.Expr} {n n' : Nat} {B B' : Nat → List (Str × Value) → Prop} {I : Addr} {wr : List Addr} {St : Nat → Heap → Prop} {h₂ : Heap} {tk₂ : Nat} (F : ∀ g, Sub G₀ g → Feed prog w A g target I wr n B St) (hst : St 0 h₂)
    (hsub : Sub s.heap h₂) (hwr : ∀ b ∈ wr, (∃ o, h₂.get? b = some o) ∧ s.heap.get? b = none) (hnd : wr.Nodup) (hn : n = n') (hB : ∀ i bs, i < n → B i bs → B' i bs) : SrcL prog w A s G₀ target n' B' (.ref I) { s with heap := h₂, toks := tk₂ } :=
  ⟨I, wr, St, h₂, tk₂, rfl, rfl, hsub, fun b hb => (hwr b hb).1, fun b hb => (hwr b hb).2, hnd, hst, fun g kg => hn ▸ ⟨(F g kg).frame, fun i s env Q hi st kk h => (F g kg).item i s env Q hi st kk fun bs h' tk hb => h bs h' tk (hB i bs hi hb), (F g kg).done, (F g kg).self⟩⟩
theorem src_listL {s : Shared} {G₀ : Heap} {l : Addr} {vs : List Value} (hh : A.handled = none) (k : Sub G₀ s.heap) (hl : G₀.IsList l vs.toArray) (x : Str) (px : Pos) :
    wpAny (model prog w) A (pyIter (.ref l)) (SrcL prog w A s G₀ (.Name x px) vs.length (BList x vs)) E s := by
  refine list_iter (hl.at fun o e => k l o e) fun h2 hit k2 => ?_
  have hlt : @LT.lt Nat _ l s.heap.objs.size := by obtain ⟨o, e, _⟩ := hl; exact Heap.lt_size (k l o e)
  have hl2 : h2.IsList l vs.toArray := hl.at fun o e => k2 l o (k l o e)
  obtain ⟨oi, hoi, _⟩ := id hit
  obtain ⟨ol, hol, _⟩ := id hl
  have F := fun (g : Heap) (kg : Sub G₀ g) => feedName (g := g) (Walks.list (prog := prog) (w := w) hh s.heap.objs.size l (Nat.ne_of_lt hlt) vs.toArray) (fun b hb => by
    simp only [List.mem_cons, List.not_mem_nil, or_false] at hb
    rcases hb with rfl | rfl
    · exact .inl (.head _)
    · exact .inr ⟨_, kg _ _ hol⟩) (fun i h st b hb => by
    rw [List.mem_singleton.mp hb]
    obtain ⟨⟨o, e, _⟩, _⟩ := st
    exact ⟨o, e⟩) x px
  exact SrcL.mk F ⟨hit, hl2⟩ k2 (fun b hb => by rw [List.mem_singleton.mp hb]; exact ⟨⟨_, hoi⟩, Heap.get?_none_of_le (Nat.le_refl _)⟩) (by simp) (by simp) fun i bs _ ⟨v, e, q⟩ => ⟨v, e, by simpa using q⟩
theorem src_pairsL {s : Shared} {G₀ : Heap} {l : Addr} {rs : List Value} {ps : List (Int × Int)} (hh : A.handled = none) (k : Sub G₀ s.heap) (hl : G₀.IsList l rs.toArray) (hP : PairsAre G₀ rs ps) (x y : Str) (px py pt : Pos) (kk : Nat) :
    wpAny (model prog w) A (pyIter (.ref l)) (SrcL prog w A s G₀ (.Tuple [.Name x px, .Name y py] kk pt) ps.length (BPairs x y ps)) E s := by
  refine list_iter (hl.at fun o e => k l o e) fun h2 hit k2 => ?_
  have hlt : @LT.lt Nat _ l s.heap.objs.size := by obtain ⟨o, e, _⟩ := hl; exact Heap.lt_size (k l o e)
  have hl2 : h2.IsList l rs.toArray := hl.at fun o e => k2 l o (k l o e)
  obtain ⟨oi, hoi, _⟩ := id hit
  obtain ⟨ol, hol, _⟩ := id hl
  have hex : ∀ i : Nat, ∃ q : Addr × Array Value, i < rs.length → rs[i]? = some (.ref q.1) ∧ q.1 < s.heap.objs.size ∧ G₀.IsTuple q.1 q.2 ∧ ∃ p t u, ps[i]? = some p ∧ q.2 = #[.int p.1 t, .int p.2 u] := fun i => by
    by_cases hi : i < rs.length
    · have e := List.getElem?_eq_getElem hi
      obtain ⟨b, p, t, u, e1, e2, e3⟩ := hP.2 i _ e
      refine ⟨(b, _), fun _ => ⟨by rw [e, e1], by obtain ⟨o, e, _⟩ := e2; exact Heap.lt_size (k _ _ e), e2, p, t, u, e3, rfl⟩⟩
    · exact ⟨(0, #[]), fun q => absurd q hi⟩
  let Ts : Nat → Addr := fun i => (hex i).choose.1
  let vals : Nat → Array Value := fun i => (hex i).choose.2
  have hT : ∀ i, i < rs.length → rs[i]? = some (.ref (Ts i)) ∧ Ts i < s.heap.objs.size ∧ G₀.IsTuple (Ts i) (vals i) ∧ ∃ p t u, ps[i]? = some p ∧ vals i = #[.int p.1 t, .int p.2 u] := fun i => (hex i).choose_spec
  have W := (WalksU.listOfTuples (prog := prog) (w := w) hh s.heap.objs.size l (Nat.ne_of_lt hlt) rs.toArray Ts vals (fun j hj => by have := (hT j (by simpa using hj)).1; simpa using this) (fun j hj => Nat.ne_of_lt (hT j (by simpa using hj)).2.1)).bound
  have F := fun (g : Heap) (kg : Sub G₀ g) => feedPair (g := g) W hh (fun b hb => by
    simp only [List.mem_cons, List.mem_map, List.mem_range, List.size_toArray] at hb
    rcases hb with rfl | rfl | ⟨j, hj, rfl⟩
    · exact .inl (.head _)
    · exact .inr ⟨_, kg _ _ hol⟩
    · obtain ⟨o, e, _⟩ := (hT j hj).2.2.1
      exact .inr ⟨o, kg _ _ e⟩) (fun i h st b hb => by
    rw [List.mem_singleton.mp hb]
    obtain ⟨⟨o, e, _⟩, _⟩ := st
    exact ⟨o, e⟩) (fun i v hv => by
    obtain ⟨hi, rfl⟩ := hv
    obtain ⟨p, t, u, _, e⟩ := (hT i (by simpa using hi)).2.2.2
    exact ⟨_, _, e⟩) x y px py pt kk
  refine SrcL.mk F ⟨hit, hl2, fun j hj => (hT j (by simpa using hj)).2.2.1.at fun o e => k2 _ o (k _ o e)⟩ k2 (fun b hb => by rw [List.mem_singleton.mp hb]; exact ⟨⟨_, hoi⟩, Heap.get?_none_of_le (Nat.le_refl _)⟩) (by simp) (by rw [List.size_toArray]; exact hP.1) fun i bs _ hb => ?_
  obtain ⟨a, b, e, hi, e2⟩ := hb
  obtain ⟨p, t, u, e3, e4⟩ := (hT i (by simpa using hi)).2.2.2
  rw [← e2] at e4
  obtain ⟨rfl, rfl⟩ : a = .int p.1 t ∧ b = .int p.2 u := by simpa using congrArg Array.toList e4
  exact ⟨_, _, e, p, t, u, e3, rfl, rfl⟩

inductive SPost (s : Shared) (env : Env) (its : List (Addr × Obj)) (G : Heap) (J : List (Addr × Obj) → Heap → (Str → Option Value) → Prop) (f : Flow) (s' : Shared) : Prop
  | mk (e : f = .next) (xs' : List (Addr × Obj)) (G' h' : Heap) (m' : Str → Option Value) (gs' : Array GenState) (tk' : Nat) (e2 : s' = { s with heap := h', gens := gs', toks := tk' }) (S' : Sit env (its ++ xs') G' h' m') (k : Sub G G') (j : J xs' G' m') (b : AllBare s.gens → AllBare gs')
inductive SInv (s : Shared) (env : Env) (n : Nat) (wr : List Addr) (St : Nat → Heap → Prop) (G₀ : Heap) (J : Nat → List (Addr × Obj) → Heap → (Str → Option Value) → Prop) (k : Nat) (s' : Shared) : Prop
  | mk (i : Nat) (its xs : List (Addr × Obj)) (G h : Heap) (gs : Array GenState) (tk : Nat) (m : Str → Option Value) (hik : i + k = n) (e : s' = { s with heap := h, gens := gs, toks := tk }) (hw : its.map (·.1) = wr) (S : Sit env (its ++ xs) G h m) (st : St i h) (hGG : Sub G₀ G) (hJ : J i xs G m) (bare : AllBare s.gens → AllBare gs)
inductive STurn (s : Shared) (env : Env) (wr : List Addr) (St : Nat → Heap → Prop) (G : Heap) (J : Nat → List (Addr × Obj) → Heap → (Str → Option Value) → Prop) (i : Nat) (f : Flow) (s' : Shared) : Prop
  | mk (e : f = .next) (xs' : List (Addr × Obj)) (G' h' : Heap) (m' : Str → Option Value) (gs' : Array GenState) (tk' : Nat) (its' : List (Addr × Obj)) (e2 : s' = { s with heap := h', gens := gs', toks := tk' }) (e1 : its'.map (·.1) = wr) (r1 : Sit env (its' ++ xs') G' h' m') (r2 : St i h') (r3 : Sub G G') (r4 : J i xs' G' m') (r5 : AllBare s.gens → AllBare gs')
/-- a for loop in a frame that is followed -/
theorem sit_for {R : Result → Shared → Prop} {s s₂ : Shared} {env : Env} {xs₀ : List (Addr × Obj)} {G₀ : Heap} {m₀ : Str → Option Value} {target : PySem.Expr} {it : Value} {body : List Stmt} {n : Nat} {B : Nat → List (Str × Value) → Prop} (targets : List Str)
    (J : Nat → List (Addr × Obj) → Heap → (Str → Option Value) → Prop) (hk : env.scope.kind = .function) (S₀ : Sit env xs₀ G₀ s.heap m₀) (src : SrcL prog w A s G₀ target n B it s₂) (J0 : J 0 xs₀ G₀ m₀)
    (mono : ∀ i xs G G' m, J i xs G m → Sub G G' → J i xs G' m) (hB : ∀ i bs, B i bs → bs.map (·.1) = targets) (htn : targets.Nodup) (htg : ∀ x ∈ targets, TgOk env x)
    (turn : ∀ i its xs G h m M gs tk bs, i < n → B i bs → J i xs G m → Sub G₀ G → Sit env (its ++ xs) G h M → (∀ p ∈ bs, M p.1 = some p.2) → (∀ y, y ∉ targets → M y = m y) → (AllBare s.gens → AllBare gs) →
      wpAny (model prog w) A (execs body env) (fun f s' => Stop (SPost s env its G (J (i + 1)) f s')) (fun _ _ => False) { s with heap := h, gens := gs, toks := tk })
    (done : ∀ xs G h m gs tk, J n xs G m → Sub G₀ G → Sit env xs G h m → (AllBare s.gens → AllBare gs) → R (.ok .next) { s with heap := h, gens := gs, toks := tk }) :
    codeAny (model prog w) A (.forLoop target it body [] env) R s₂ := by
  obtain ⟨I, wr, St, h₂, tk₂, rfl, rfl, k₂, hwr, hnew, hwn, hst, Fd⟩ := src
  obtain ⟨its₀, hi1, hi2⟩ := its_of wr hwr
  have hin : ∀ p ∈ its₀, s.heap.get? p.1 = none := fun p hp => hnew _ (hi1 ▸ List.mem_map_of_mem hp)
  obtain ⟨oL, hoL⟩ : ∃ o, s.heap.get? env.locals = some o := by
    obtain ⟨_, ⟨o, _, _, ho, _⟩, _⟩ := S₀.v.ns
    exact ⟨o, ho⟩
  have hne : ∀ p ∈ its₀, p.1 ≠ env.locals ∧ ∀ x c, env.cells.lookup x = some c → p.1 ≠ c := by
    intro p hp
    constructor
    · intro q
      have := hin p hp
      rw [q, hoL] at this; cases this
    · intro x c e q
      obtain ⟨o, ho, _⟩ := S₀.v.cell x c e
      have := hin p hp
      rw [q, ho] at this; cases this
  have hnx : ∀ p ∈ its₀, p.1 ∉ xs₀.map (·.1) := fun p hp q => by
    obtain ⟨p', hp', e⟩ := List.mem_map.mp q
    have h1 := (S₀.oth p' hp').1
    have h2 := (S₀.oth p' hp').2
    rw [e, hin p hp] at h2
    cases h2
  obtain ⟨S1, g1, n1⟩ := S₀.grow k₂
  obtain ⟨S2, g2⟩ := S1.more its₀ hi2 hne hnx (hi1 ▸ hwn)
  have hG : ∀ b o, G₀.get? b = some o → b ∉ its₀.map (·.1) := fun b o e q => by
    rw [hi1] at q
    have := S₀.sub b o e
    rw [hnew b q] at this; cases this
  have gG : Sub G₀ (hideAll h₂ (Sit.offs env (its₀ ++ xs₀))) := fun b o e => g2 b o (hG b o e) (g1 b o e)
  refine codeAny_mono (codeAny_forLoop_any (R := R) (SInv s env n wr St G₀ J) ?_ n
    ⟨0, its₀, xs₀, _, h₂, s.gens, tk₂, m₀, by lia, rfl, hi1, S2, hst, gG, mono _ _ _ _ _ J0 gG, id⟩) (fun _ _ z => z)
  rintro k _ ⟨i, its, xs, G, h, gs, tk, m, hik, rfl, hw, S, st, hGG, hJ, bare⟩
  have Fd := Fd G hGG
  have mapapp : ∀ b, b ∈ wr → b ∈ (its ++ xs).map (·.1) := fun b hb => by rw [List.map_append, hw]; exact List.mem_append.mpr (.inl hb)
  have hGw : ∀ b o, G.get? b = some o → b ∉ wr := fun b o e q => by
    obtain ⟨p, hp, e'⟩ := List.mem_map.mp (mapapp b q)
    have := (S.oth p hp).1
    rw [e', e] at this; cases this
  by_cases hi : i < n
  · refine wpAny_mono (Fd.item i { s with heap := h, gens := gs, toks := tk } env (fun s₃ => wpAny (model prog w) A (execs body env) (fun f s' => Stop (STurn s env wr St G₀ J (i + 1) f s')) (fun _ _ => False) s₃) hi st S.sub fun bs h₁ tk₁ hb st₁ k₁ ex₁ => ?_)
      (fun r s₁ q => ?_) fun _ _ x => x.elim
    · obtain ⟨its₁, e1, e2⟩ := its_of wr fun b hb => by
        obtain ⟨p, hp, e'⟩ := List.mem_map.mp (mapapp b hb)
        exact ex₁ b _ (e' ▸ (S.oth p hp).2)
      have hxs : ∀ p ∈ xs, h₁.get? p.1 = some p.2 := fun p hp => k₁ _ _ (fun q => by
        have := S.xn
        rw [List.map_append, hw] at this
        exact (List.nodup_append.mp this).2.2 _ q _ (List.mem_map_of_mem hp) rfl) (S.oth p (List.mem_append.mpr (.inr hp))).2
      obtain ⟨S3, g3, _⟩ := S.turn (h' := h₁) (ys := its₁ ++ xs) (by rw [List.map_append, List.map_append, e1, hw]) (fun b o q e => k₁ b o (fun q' => q (mapapp b q')) e) fun p hp => by
        rcases List.mem_append.mp hp with q | q
        · exact e2 p q
        · exact hxs p q
      have hbt : ∀ p ∈ bs, p.1 ∈ targets := fun p hp => hB i bs hb ▸ List.mem_map_of_mem hp
      refine sitStoreAll hk bs m { s with heap := h₁, gens := gs, toks := tk₁ } S3 (fun p hp => htg _ (hbt p hp)) fun h₂' tk₂' S4 => ?_
      refine wpAny_mono (turn i its₁ xs _ h₂' m _ gs tk₂' bs hi hb (mono _ _ _ _ _ hJ g3) (hGG.trans g3) S4 (stored_in bs m (by rw [hB i bs hb]; exact htn)) (fun y hy => stored_other bs m (by rw [hB i bs hb]; exact hy)) bare) (fun f s' q => ?_) fun _ _ z => z
      obtain ⟨rfl, xs', G', h', m', gs', tk', rfl, r1, r2, r3, r4⟩ := q
      refine Stop.go ⟨rfl, xs', G', h', m', gs', tk', its₁, rfl, e1, r1, ?_, (hGG.trans g3).trans r2, r3, r4⟩
      have keepI : ∀ b ∈ wr, ∀ o, h₁.get? b = some o → h'.get? b = some o := fun b hb' o e => by
        obtain ⟨p, hp, e'⟩ := List.mem_map.mp (e1 ▸ hb' : b ∈ its₁.map (·.1))
        have h3 := e2 p hp
        rw [e', e] at h3
        cases h3
        exact e' ▸ (r1.oth p (List.mem_append.mpr (.inl hp))).2
      exact Fd.frame (i + 1) h₁ h' st₁ (g3.trans S3.sub) ((g3.trans r2).trans r1.sub) keepI
    · cases r with
      | none => exact q.elim
      | some v =>
        dsimp only at q ⊢
        refine wpAny_mono q (fun _ s₁' q => wpAny_mono q (fun _ s₂ q => wpAny_mono q (fun f s₃ q => ?_) fun _ _ z => z.elim) fun _ _ z => z.elim) fun _ _ z => z.elim
        obtain ⟨rfl, xs', G', h', m', gs', tk', its', rfl, r1, r2, r3, r4, r5, r6⟩ := q
        exact ⟨n - (i + 1), by lia, i + 1, its', xs', G', h', gs', tk', m', by lia, rfl, r1, r2, r3, r4, r5, r6⟩
  · have hin' : i = n := by lia
    subst hin'
    refine wpAny_mono (Fd.done { s with heap := h, gens := gs, toks := tk } (fun s₃ => R (.ok .next) s₃) st S.sub fun h' tk' k' => ?_) (fun r s₁ q => ?_) fun _ _ x => x.elim
    · have hnw : ∀ p ∈ its ++ xs, p.1 ∈ wr → p ∈ its := fun p hp q => by
        rcases List.mem_append.mp hp with z | z
        · exact z
        · have := S.xn
          rw [List.map_append, hw] at this
          exact absurd rfl ((List.nodup_append.mp this).2.2 _ q _ (List.mem_map_of_mem z))
      have hwi : ∀ b ∈ wr, ∃ p ∈ its, p.1 = b := fun b hb => List.mem_map.mp (hw ▸ hb : b ∈ its.map (·.1))
      refine done xs G h' m gs tk' hJ hGG (S.fewer.off k' hGw (fun p hp q => ?_) (fun q => ?_) fun x c e q => ?_) bare
      · have := S.xn
        rw [List.map_append, hw] at this
        exact (List.nodup_append.mp this).2.2 _ q _ (List.mem_map_of_mem hp) rfl
      · obtain ⟨p, hp, e⟩ := hwi _ q
        exact (S.ne p (List.mem_append.mpr (.inl hp))).1 e
      · obtain ⟨p, hp, e'⟩ := hwi _ q
        exact (S.ne p (List.mem_append.mpr (.inl hp))).2 x c e e'
    · cases r with
      | none => exact wpAny_execs_nil q
      | some v => exact q.elim
end
end RS
end PartL3

section PartL4
open PySem PySem.W PyProof.Rows PySem.Calls
set_option Elab.async false
set_option maxRecDepth 100000
namespace RS
section
variable {prog : Program} {w : World} {A : Around} {E : Value → Shared → Prop} {s : Shared}
theorem fdivS {a b : Int} {t u : Tok} {Q : Value → Shared → Prop} (ha : 0 ≤ a) (hb : 0 < b) (hs : a < 2 ^ 40) (hs2 : b < 2 ^ 30) (h : Q (.int (a / b) s.toks) { s with toks := s.toks + 1 }) : wpAny (model prog w) A (binaryOp .FloorDiv (.int a t) (.int b u)) Q E s := by
  refine PyProof.Rows.floordiv_int (by omega) ?_ (Or.inl (PyProof.noPylong_small (by omega)))
  rw [Int.fdiv_eq_ediv_of_nonneg _ (by omega)]
  exact h
theorem fmodS {a b : Int} {t u : Tok} {Q : Value → Shared → Prop} (hb : 0 < b) (h : Q (.int (a % b) s.toks) { s with toks := s.toks + 1 }) : wpAny (model prog w) A (binaryOp .Mod (.int a t) (.int b u)) Q E s := by
  refine PyProof.Rows.mod_int' (by omega) ?_
  rw [Int.fmod_eq_emod_of_nonneg _ (by omega)]
  exact h
theorem mulS {a b : Int} {t u : Tok} {Q : Value → Shared → Prop} (hb : -(2 ^ 60) ≤ b ∧ b < 2 ^ 60) (h : Q (.int (a * b) s.toks) { s with toks := s.toks + 1 }) : wpAny (model prog w) A (binaryOp .Mult (.int a t) (.int b u)) Q E s :=
  PyProof.Rows.mul_int h (IntMulOk.of_right (intBits_le_64 (by omega) (by omega)))

/-- a frame that is followed, over a base g that it keeps -/
structure Fm (g : Heap) (env : Env) (xs : List (Addr × Obj)) (G h : Heap) (m : Str → Option Value) : Prop where
  s : Sit env xs G h m
  b : Sub g G
theorem Fm.kb {g : Heap} {env : Env} {xs : List (Addr × Obj)} {G h : Heap} {m : Str → Option Value} (S : Fm g env xs G h m) : Bas g h := S.b.trans S.s.sub
variable {g : Heap} {env : Env} {xs : List (Addr × Obj)} {G : Heap} {m : Str → Option Value}
theorem Fm.stL {x : Str} {v : Value} {Q : Unit → Shared → Prop} (S : Fm g env xs G s.heap m) (hk : env.scope.kind = .function) (hx : env.kindOf x = some .local) (hcx : env.cells.lookup x = none)
    (h : ∀ h' tk m', Fm g env xs G h' m' → m' x = some v → (∀ y, y ≠ x → m' y = m y) → Q () { s with heap := h', toks := tk }) : wpAny (model prog w) A (storeName env x v) Q E s :=
  S.s.storeL hk hx hcx fun h' tk S' => h h' tk _ ⟨S', S.b⟩ upd_self fun _ hy => upd_ne hy
theorem Fm.stC {x : Str} {v : Value} {c : Addr} {Q : Unit → Shared → Prop} (S : Fm g env xs G s.heap m) (hk : env.scope.kind = .function) (hx : env.kindOf x = some .cell) (hc : env.cells.lookup x = some c)
    (h : ∀ h' tk m', Fm g env xs G h' m' → m' x = some v → (∀ y, y ≠ x → m' y = m y) → Q () { s with heap := h', toks := tk }) : wpAny (model prog w) A (storeName env x v) Q E s :=
  S.s.storeC hk hx hc fun h' tk S' => h h' tk _ ⟨S', S.b⟩ upd_self fun _ hy => upd_ne hy
theorem Fm.up {h h' : Heap} (S : Fm g env xs G h m) (k : Sub h h') : ∃ G', Fm g env xs G' h' m ∧ Sub G G' ∧ ∀ b o, h.get? b = none → h'.get? b = some o → G'.get? b = some o := by
  obtain ⟨S', a, b⟩ := S.s.grow k
  exact ⟨_, ⟨S', S.b.trans a⟩, a, b⟩
theorem Fm.tup {items : List Value} {Q : Value → Shared → Prop} (S : Fm g env xs G s.heap m)
    (h : ∀ D G' h', Fm g env xs G' h' m → Sub G G' → G'.IsTuple D items.toArray → s.heap.get? D = none → Q (.ref D) { s with heap := h' }) (hsz : items.length ≤ sizeLine := by size_fits) : wpAny (model prog w) A (newTuple items) Q E s := by
  refine wpAny_newTuple ?_ hsz
  have k : Sub s.heap (s.heap.push { cls := .type "tuple", data := .seq items.toArray }) := fun b o e => Heap.get?_push_of_some _ e
  obtain ⟨G', S', a, b⟩ := S.up k
  exact h _ G' _ S' a ⟨_, b _ _ (Heap.get?_none_of_le (Nat.le_refl _)) (Heap.get?_push_size _ rfl), rfl, _, rfl⟩ (Heap.get?_none_of_le (Nat.le_refl _))
theorem Fm.lst {items : List Value} {Q : Value → Shared → Prop} (S : Fm g env xs G s.heap m)
    (h : ∀ D G' h', Fm g env xs G' h' m → Sub G G' → DL G' D items → s.heap.get? D = none → Q (.ref D) { s with heap := h' }) (hsz : items.length ≤ sizeLine := by size_fits) : wpAny (model prog w) A (newList items) Q E s := by
  refine wpAny_newList ?_ hsz
  have k : Sub s.heap (s.heap.push { cls := .type "list", data := .seq items.toArray }) := fun b o e => Heap.get?_push_of_some _ e
  obtain ⟨G', S', a, b⟩ := S.up k
  exact h _ G' _ S' a ⟨0, b _ _ (Heap.get?_none_of_le (Nat.le_refl _)) (Heap.get?_push_size _ rfl)⟩ (Heap.get?_none_of_le (Nat.le_refl _))
/-- in a comprehension's block -/
theorem Vw.tup {items : List Value} {Q : Value → Shared → Prop} (V : Vw env s.heap m) (B : Bas g s.heap)
    (h : ∀ D h', Vw env h' m → Bas g h' → Sub s.heap h' → h'.IsTuple D items.toArray → s.heap.get? D = none → Q (.ref D) { s with heap := h' }) (hsz : items.length ≤ sizeLine := by size_fits) : wpAny (model prog w) A (newTuple items) Q E s := by
  refine wpAny_newTuple ?_ hsz
  have k : Sub s.heap (s.heap.push { cls := .type "tuple", data := .seq items.toArray }) := fun b o e => Heap.get?_push_of_some _ e
  exact h _ _ (V.keeps k) (fun b o e => k b o (B b o e)) k ⟨_, Heap.get?_push_size _ rfl, rfl, _, rfl⟩ (Heap.get?_none_of_le (Nat.le_refl _))
/-- a comprehension stored under a local name -/
theorem FmA {elt target iter : PySem.Expr} {ifs : List PySem.Expr} {scope : Scope} {cl : List (Str × Addr)} {pos : Pos}
    {y : Str} {py spos : Pos} {Q : Flow → Shared → Prop} (S : Fm g env xs G s.heap m) (hsw : swapsWith (.ListComp elt [⟨target, iter, ifs, 0⟩] scope pos) (some (.Name y py)) spos.line env = pure true)
    (hclos : closureFor scope env = pure cl) (hkind : scope.kind = .function) (ok : BlockOk scope env cl) (hke : env.scope.kind = .function) (hy : env.kindOf y = some .local) (hcy : env.cells.lookup y = none)
    (h : wpAny (model prog w) A (eval iter env) (fun xv s₁ => wpAny (model prog w) A (pyIter xv) (fun it s₂ => CRest prog w A elt target ifs scope cl env m (fun D s' => Sub s.heap s'.heap ∧ (∀ G' h' tk m', Fm g env xs G' h' m' → m' y = some (.ref D) → (∀ z, z ≠ y → m' z = m z) → Sub G G' →
      (∀ b o, s.heap.get? b = none → s'.heap.get? b = some o → G'.get? b = some o) → Q .next { s' with heap := h', toks := tk })) it s₂) E s₁) E s)
    (hs : ∀ x, foldedSetIterable iter env x = pure x := by intro _; rfl) :
    wpAny (model prog w) A (exec (.Assign [.Name y py] (.ListComp elt [⟨target, iter, ifs, 0⟩] scope pos) spos) env) Q E s := by
  refine SitA S.s hsw hclos hkind ok hke hy hcy (wpAny_mono h (fun xv s₁ h₁ => wpAny_mono h₁ (fun it s₂ h₂ => CRest.mono h₂ fun D s' q => ⟨q.1, fun G' h' tk S' g1 g2 => q.2 G' h' tk _ ⟨S', S.b.trans g1⟩ upd_self (fun _ hz => upd_ne hz) g1 g2⟩) fun _ _ z => z) fun _ _ z => z) hs
end
end RS
end PartL4

section PartL5
open PySem PySem.W PyProof.Rows PySem.Calls
set_option Elab.async false
set_option maxRecDepth 100000
namespace RS
section
variable {prog : Program} {w : World} {A : Around} {E : Value → Shared → Prop} {s : Shared}
theorem item_list {value slice : PySem.Expr} {l : Addr} {vs : List Value} {k : Int} {u : Tok} {v : Value} {Q : Value → Shared → Prop}
    (hl : s.heap.IsList l vs.toArray) (h0 : 0 ≤ k) (hhi : k < 2 ^ 63) (hx : vs[k.toNat]? = some v) (h : Q v s)
    (hs : subscripted slice false (.ref l) (.int k u) = operate [.ref l, .int k u] (getItem (.ref l) (.int k u)) := by with_unfolding_all rfl) :
    wpAny (model prog w) A (subscriptTail value slice (.ref l) (.int k u)) Q E s :=
  tail_any hl.typeIs slot_list_getitem.lookup (wpAny_getItem_list hl h0 hhi (by simpa using hx) h) hs
theorem addL {l b : Addr} {vs ws : List Value} {Q : Value → Shared → Prop} (hl : s.heap.IsList l vs.toArray) (hb : s.heap.IsList b ws.toArray)
    (h : ∀ D h', Sub s.heap h' → s.heap.get? D = none → DL h' D (vs ++ ws) → Q (.ref D) { s with heap := h' }) (hsz : vs.length + ws.length ≤ sizeLine) :
    wpAny (model prog w) A (binaryOp .Add (.ref l) (.ref b)) Q E s := by
  obtain ⟨⟨cls, dd, data, sl⟩, ho, hc, n, hd⟩ := id hl
  obtain ⟨⟨cls2, dd2, data2, sl2⟩, ho2, hc2, n2, hd2⟩ := id hb
  simp only at hc hd hc2 hd2
  subst hc hd hc2 hd2
  have e : vs.toArray ++ ws.toArray = (vs ++ ws).toArray := by simp
  refine concat_meets ⟨_, ho, rfl⟩ ⟨_, ho2, rfl⟩ noFill_list_add seq_list_add PySem.F.slot_list_add PySem.F.entry_list_add (PySem.F.args_list_add_2 _ _) (list_addW l b vs.toArray ws.toArray n n2 dd dd2 sl sl2 (by simpa using hsz)) ⟨ho, ho2, ?_⟩
  rw [e]
  exact h _ _ (fun b o q => Heap.get?_push_of_some _ q) (Heap.get?_none_of_le (Nat.le_refl _)) ⟨0, Heap.get?_push_size _ rfl⟩
theorem sliceL {value slice : PySem.Expr} {l : Addr} {vs : List Value} {vl vu : Value} {lo hi : Option Int} {Q : Value → Shared → Prop} (hl : s.heap.IsList l vs.toArray) (pl : IsPart vl lo) (pu : IsPart vu hi)
    (h : ∀ D h', Sub s.heap h' → s.heap.get? D = none → DL h' D (slicePick vs.toArray lo hi none).toList → Q (.ref D) { s with heap := h' }) (hsz : vs.length ≤ sizeLine)
    (hs : subscripted slice false (.ref l) (.ref s.heap.objs.size) = operate [.ref s.heap.objs.size, .ref l] (getItem (.ref l) (.ref s.heap.objs.size)) := by with_unfolding_all rfl)
    (ht : ∀ r, letTemporaryGo value (.ref l) r = pure () := by intro _; with_unfolding_all rfl) :
    wpAny (model prog w) A (subscriptTail value slice (.ref l) (.ref s.heap.objs.size)) Q E { s with heap := s.heap.push { cls := .type "slice", data := .fields #[vl, vu, .none] } } := by
  refine subscriptTail_ops (Heap.IsList.typeIs (s := { s with heap := s.heap.push { cls := .type "slice", data := .fields #[vl, vu, .none] } }) (hl.push _)) list_getitem_lookup
    (wpAny_getItem_list_slice (hl.push _) (Heap.IsSliceOf.new ..) pl pu .none (by simp) ?_ (by simpa using hsz)) hs ht
  refine h _ _ (fun b o q => Heap.get?_push_of_some _ (Heap.get?_push_of_some _ q)) (Heap.get?_none_of_le (by rw [Heap.size_push]; exact Nat.le_succ _)) ⟨0, ?_⟩
  exact Heap.get?_push_size _ rfl
theorem carriedPair (x y : Int) (t u : Tok) : CarriedAll [Value.int x t, .int y u] [.int x, .int y] := .cons (.int x t) (.cons (.int y u) .nil)
theorem ne_pairs {a b : Addr} {x y x' y' : Int} {t u t' u' : Tok} {Q : Value → Shared → Prop} (h1 : s.heap.IsTuple a #[.int x t, .int y u]) (h2 : s.heap.IsTuple b #[.int x' t', .int y' u']) (hu : A.units + 64 < cLine)
    (h : Q (.bool (decide ((x, y) ≠ (x', y')))) s) : wpAny (model prog w) A (compareOp .NotEq (.ref a) (.ref b)) Q E s := by
  have r1 : Reads s.heap (.ref a) (.tuple [.int x, .int y]) [] := reads_newDataT (ys := [_, _]) h1 (carriedPair x y t u)
  have r2 : Reads s.heap (.ref b) (.tuple [.int x', .int y']) [] := reads_newDataT (ys := [_, _]) h2 (carriedPair x' y' t' u')
  refine ne_dataH r1 r2 rfl rfl hu ?_
  have e : (!PyData.eqv (.tuple [.int x, .int y]) (.tuple [.int x', .int y'])) = decide ((x, y) ≠ (x', y')) := by
    simp only [PyData.eqv, PyData.eqvAll, Bool.and_true]
    by_cases p : x = x' <;> by_cases q : y = y' <;> simp [p, q]
  rw [e]
  exact h
theorem Fm.len {g : Heap} {env : Env} {xs : List (Addr × Obj)} {G : Heap} {m : Str → Option Value} {l : Addr} {vs : List Value} {Q : Value → Shared → Prop} (S : Fm g env xs G s.heap m) (hl : DL G l vs) (hn : (vs.length : Int) < 2 ^ 60)
    (h : ∀ t tk, Q (.int (vs.length : Int) t) { s with toks := tk }) : wpAny (model prog w) A (call (.builtin "len") [.ref l]) Q E s := by
  have e : (vs.toArray.size : Int) = (vs.length : Int) := by simp
  refine len_list (hl.lst.at fun o e => S.s.sub l o e) (by rw [e]; lia) ?_
  rw [e]
  exact h _ _
/-- two names from a pair -/
theorem Fm.unpack2 {g : Heap} {env : Env} {xs : List (Addr × Obj)} {G : Heap} {m : Str → Option Value} {x y : Str} {px py pt : Pos} {k : Nat} {b : Addr} {v1 v2 : Value} {Q : Unit → Shared → Prop} (hh : A.handled = none) (hk : env.scope.kind = .function) (S : Fm g env xs G s.heap m)
    (hT : s.heap.IsTuple b #[v1, v2]) (hx : TgOk env x) (hy : TgOk env y) (hxy : x ≠ y)
    (h : ∀ G' h' tk m', Fm g env xs G' h' m' → Sub G G' → m' x = some v1 → m' y = some v2 → (∀ z, z ≠ x → z ≠ y → m' z = m z) → Q () { s with heap := h', toks := tk }) :
    wpAny (model prog w) A (assign (.Tuple [.Name x px, .Name y py] k pt) env (.ref b)) Q E s := by
  refine wpAny_assign_Tuple hh hT rfl rfl fun h3 e3 => ?_
  have k3 : Sub s.heap h3 := fun b o e => e3 b o (Nat.ne_of_lt (Heap.lt_size e)) e
  obtain ⟨G', S', a, _⟩ := S.up k3
  have base := sitStoreAll (prog := prog) (w := w) (A := A) (K := fun s' => Q () s') hk [(x, v1), (y, v2)] m { s with heap := h3 } S'.s (fun p hp => by
    simp only [List.mem_cons, List.not_mem_nil, or_false] at hp
    rcases hp with rfl | rfl
    · exact hx
    · exact hy) fun h' tk S2 => h G' h' tk _ ⟨S2, S'.b⟩ a (by show upd (upd m x v1) y v2 x = _; rw [upd_ne hxy, upd_self]) (by show upd (upd m x v1) y v2 y = _; rw [upd_self]) fun z h1 h2 => by show upd (upd m x v1) y v2 z = _; rw [upd_ne h2, upd_ne h1]
  refine assignInOrder_cons (wpAny_assign_Name ?_)
  exact wpAny_mono base (fun _ s4 q => assignInOrder_cons (wpAny_assign_Name (wpAny_mono q (fun _ s5 q5 => assignInOrder_nil q5) fun _ _ z => z.elim))) fun _ _ z => z.elim
/-- behind a turn of a loop -/
inductive LPost (s : Shared) (g : Heap) (env : Env) (its : List (Addr × Obj)) (G : Heap) (J : List (Addr × Obj) → Heap → (Str → Option Value) → Prop) (f : Flow) (s' : Shared) : Prop
  | mk (e : f = .next) (xs' : List (Addr × Obj)) (G' h' : Heap) (m' : Str → Option Value) (gs' : Array GenState) (tk' : Nat) (e2 : s' = { s with heap := h', gens := gs', toks := tk' }) (S' : Fm g env (its ++ xs') G' h' m') (k : Sub G G') (j : J xs' G' m') (b : AllBare s.gens → AllBare gs')
/-- a for loop over a list, over pairs -/
theorem Fm.forList {g : Heap} {env : Env} {xs₀ : List (Addr × Obj)} {G₀ : Heap} {m₀ : Str → Option Value} {R : Result → Shared → Prop} {body : List Stmt} {x : Str} {px : Pos} {l : Addr} {vs : List Value} (hh : A.handled = none)
    (J : Nat → List (Addr × Obj) → Heap → (Str → Option Value) → Prop) (hk : env.scope.kind = .function) (S₀ : Fm g env xs₀ G₀ s.heap m₀) (hl : DL G₀ l vs) (J0 : J 0 xs₀ G₀ m₀)
    (mono : ∀ i xs G G' m, J i xs G m → Sub G G' → J i xs G' m) (htg : TgOk env x)
    (turn : ∀ i its xs G h m M gs tk v, vs[i]? = some v → J i xs G m → Sub G₀ G → Fm g env (its ++ xs) G h M → M x = some v → (∀ y, y ≠ x → M y = m y) → (AllBare s.gens → AllBare gs) →
      wpAny (model prog w) A (execs body env) (fun f s' => Stop (LPost s g env its G (J (i + 1)) f s')) (fun _ _ => False) { s with heap := h, gens := gs, toks := tk })
    (done : ∀ xs G h m gs tk, J vs.length xs G m → Sub G₀ G → Fm g env xs G h m → (AllBare s.gens → AllBare gs) → R (.ok .next) { s with heap := h, gens := gs, toks := tk }) :
    wpAny (model prog w) A (pyIter (.ref l)) (fun it s₂ => codeAny (model prog w) A (.forLoop (.Name x px) it body [] env) R s₂) E s := by
  refine wpAny_mono (src_listL hh S₀.s.sub hl.lst x px) (fun it s₂ hs => ?_) fun _ _ z => z
  refine sit_for [x] J hk S₀.s hs J0 mono BList.tg (by simp) (List.forall_mem_cons.mpr ⟨htg, fun _ h => nomatch h⟩) (fun i its xs G h m M gs tk bs hi hb hJ kG S b1 b2 bare => ?_) (fun xs G h m gs tk hJ kG S bare => done xs G h m gs tk hJ kG ⟨S, S₀.b.trans kG⟩ bare)
  obtain ⟨v, rfl, hv⟩ := hb
  refine wpAny_mono (turn i its xs G h m M gs tk v hv hJ kG ⟨S, S₀.b.trans kG⟩ (b1 _ (.head _)) (fun y hy => b2 y (by simpa using hy)) bare) (fun f s' q => ?_) fun _ _ z => z
  obtain ⟨e, xs', G', h', m', gs', tk', e2, S', r1, r2, r3⟩ := q
  exact Stop.go ⟨e, xs', G', h', m', gs', tk', e2, S'.s, r1, r2, r3⟩
theorem Fm.forPairs {g : Heap} {env : Env} {xs₀ : List (Addr × Obj)} {G₀ : Heap} {m₀ : Str → Option Value} {R : Result → Shared → Prop} {body : List Stmt} {x y : Str} {px py pt : Pos} {kk : Nat} {l : Addr} {rs : List Value} {ps : List (Int × Int)} (hh : A.handled = none)
    (J : Nat → List (Addr × Obj) → Heap → (Str → Option Value) → Prop) (hk : env.scope.kind = .function) (S₀ : Fm g env xs₀ G₀ s.heap m₀) (hl : DL G₀ l rs) (hP : PairsAre G₀ rs ps) (J0 : J 0 xs₀ G₀ m₀)
    (mono : ∀ i xs G G' m, J i xs G m → Sub G G' → J i xs G' m) (htx : TgOk env x) (hty : TgOk env y) (hxy : x ≠ y)
    (turn : ∀ i its xs G h m M gs tk p t u, ps[i]? = some p → J i xs G m → Sub G₀ G → Fm g env (its ++ xs) G h M → M x = some (.int (Prod.fst p) t) → M y = some (.int (Prod.snd p) u) → (∀ z, z ≠ x → z ≠ y → M z = m z) → (AllBare s.gens → AllBare gs) →
      wpAny (model prog w) A (execs body env) (fun f s' => Stop (LPost s g env its G (J (i + 1)) f s')) (fun _ _ => False) { s with heap := h, gens := gs, toks := tk })
    (done : ∀ xs G h m gs tk, J ps.length xs G m → Sub G₀ G → Fm g env xs G h m → (AllBare s.gens → AllBare gs) → R (.ok .next) { s with heap := h, gens := gs, toks := tk }) :
    wpAny (model prog w) A (pyIter (.ref l)) (fun it s₂ => codeAny (model prog w) A (.forLoop (.Tuple [.Name x px, .Name y py] kk pt) it body [] env) R s₂) E s := by
  refine wpAny_mono (src_pairsL hh S₀.s.sub hl.lst hP x y px py pt kk) (fun it s₂ hs => ?_) fun _ _ z => z
  refine sit_for [x, y] J hk S₀.s hs J0 mono BPairs.tg (by simp [hxy]) (List.forall_mem_cons.mpr ⟨htx, List.forall_mem_cons.mpr ⟨hty, fun _ h => nomatch h⟩⟩) (fun i its xs G h m M gs tk bs hi hb hJ kG S b1 b2 bare => ?_) (fun xs G h m gs tk hJ kG S bare => done xs G h m gs tk hJ kG ⟨S, S₀.b.trans kG⟩ bare)
  obtain ⟨a, b, rfl, p, t, u, hp, rfl, rfl⟩ := hb
  refine wpAny_mono (turn i its xs G h m M gs tk p t u hp hJ kG ⟨S, S₀.b.trans kG⟩ (b1 _ (.head _)) (b1 _ (.tail _ (.head _))) (fun z h1 h2 => b2 z (by simp [h1, h2])) bare) (fun f s' q => ?_) fun _ _ z => z
  obtain ⟨e, xs', G', h', m', gs', tk', e2, S', r1, r2, r3⟩ := q
  exact Stop.go ⟨e, xs', G', h', m', gs', tk', e2, S'.s, r1, r2, r3⟩
theorem PairsAre.get {h : Heap} {rs : List Value} {ps : List (Int × Int)} (P : PairsAre h rs ps) {i : Nat} {p : Int × Int} (e : ps[i]? = some p) : ∃ b t u, rs[i]? = some (.ref b) ∧ h.IsTuple b #[.int p.1 t, .int p.2 u] := by
  have hi : i < rs.length := by rw [P.1]; exact (List.getElem?_eq_some_iff.mp e).1
  obtain ⟨b, p', t, u, e1, e2, e3⟩ := P.2 i _ (List.getElem?_eq_getElem hi)
  rw [e] at e3
  cases e3
  exact ⟨b, t, u, by rw [List.getElem?_eq_getElem hi, e1], e2⟩
theorem PairsAre.cons {h : Heap} {b : Addr} {x y : Int} {t u : Tok} {rs : List Value} {ps : List (Int × Int)} (hb : h.IsTuple b #[.int x t, .int y u]) (P : PairsAre h rs ps) : PairsAre h (.ref b :: rs) ((x, y) :: ps) := by
  refine ⟨by simp [P.1], fun i v e => ?_⟩
  cases i with
  | zero => cases e; exact ⟨b, (x, y), t, u, rfl, hb, rfl⟩
  | succ i => obtain ⟨b', p, t', u', e1, e2, e3⟩ := P.2 i v e; exact ⟨b', p, t', u', e1, e2, e3⟩
theorem PairsAre.nil {h : Heap} : PairsAre h [] [] := ⟨rfl, fun i v e => by simp at e⟩
/-- all lists and tuples are of the part that stays -/
theorem Fm.seqs {g : Heap} {env : Env} {xs : List (Addr × Obj)} {G h : Heap} {m : Str → Option Value} (S : Fm g env xs G h m) (hxs : ∀ p ∈ xs, ∀ its n, p.2.data ≠ .seq its n) :
    ∃ G', Fm g env xs G' h m ∧ Sub G G' ∧ ∀ b o, h.get? b = some o → (∃ its n, o.data = .seq its n) → G'.get? b = some o := by
  obtain ⟨S', a, _⟩ := S.s.grow (Sub.refl h)
  refine ⟨_, ⟨S', S.b.trans a⟩, a, fun b o e q => hideAll_get _ e fun hb => ?_⟩
  obtain ⟨its, n, hd⟩ := q
  rcases List.mem_cons.mp hb with rfl | hb
  · obtain ⟨_, ⟨o', es, ep, ho, hd', _⟩, _⟩ := S.s.v.ns
    rw [e] at ho; cases ho
    rw [hd] at hd'; cases hd'
  rcases List.mem_append.mp hb with hb | hb
  · obtain ⟨⟨x, c⟩, hx, rfl⟩ := List.mem_map.mp hb
    obtain ⟨o', ho, hd'⟩ := S.s.v.cell x c (lookup_of_mem S.s.nd hx)
    rw [e] at ho; cases ho
    rw [hd] at hd'; cases hd'
  · obtain ⟨p, hp, rfl⟩ := List.mem_map.mp hb
    have := (S.s.oth p hp).2
    rw [e] at this; cases this
    exact hxs p hp _ _ hd
theorem PairsAre.seqs {h G : Heap} {rs : List Value} {ps : List (Int × Int)} (P : PairsAre h rs ps) (k : ∀ b o, h.get? b = some o → (∃ its n, o.data = .seq its n) → G.get? b = some o) : PairsAre G rs ps :=
  ⟨P.1, fun i v e => let ⟨b, p, t, u, e1, ⟨o, e2, e3, n, e4⟩, e5⟩ := P.2 i v e; ⟨b, p, t, u, e1, ⟨o, k _ _ e2 ⟨_, _, e4⟩, e3, n, e4⟩, e5⟩⟩
theorem PairsAre.append {h : Heap} : ∀ {rs rs' : List Value} {ps ps' : List (Int × Int)}, PairsAre h rs ps → PairsAre h rs' ps' → PairsAre h (rs ++ rs') (ps ++ ps') := by
  intro rs rs' ps ps' P P'
  refine ⟨by rw [List.length_append, List.length_append, P.1, P'.1], fun i v e => ?_⟩
  by_cases hi : i < rs.length
  · rw [List.getElem?_append_left hi] at e
    obtain ⟨b, p, t, u, e1, e2, e3⟩ := P.2 i v e
    exact ⟨b, p, t, u, e1, e2, by rw [List.getElem?_append_left (P.1 ▸ hi)]; exact e3⟩
  · rw [List.getElem?_append_right (by lia)] at e
    obtain ⟨b, p, t, u, e1, e2, e3⟩ := P'.2 _ v e
    exact ⟨b, p, t, u, e1, e2, by rw [List.getElem?_append_right (by rw [← P.1]; lia), ← P.1]; exact e3⟩
theorem PairsAre.take {h : Heap} {rs : List Value} {ps : List (Int × Int)} (P : PairsAre h rs ps) (n : Nat) : PairsAre h (rs.take n) (ps.take n) := by
  refine ⟨by rw [List.length_take, List.length_take, P.1], fun i v e => ?_⟩
  rw [List.getElem?_take] at e
  split at e
  · obtain ⟨b, p, t, u, e1, e2, e3⟩ := P.2 i v e
    exact ⟨b, p, t, u, e1, e2, by rw [List.getElem?_take, if_pos (by assumption)]; exact e3⟩
  · cases e
theorem PairsAre.drop {h : Heap} {rs : List Value} {ps : List (Int × Int)} (P : PairsAre h rs ps) (n : Nat) : PairsAre h (rs.drop n) (ps.drop n) := by
  refine ⟨by rw [List.length_drop, List.length_drop, P.1], fun i v e => ?_⟩
  rw [List.getElem?_drop] at e
  obtain ⟨b, p, t, u, e1, e2, e3⟩ := P.2 _ v e
  exact ⟨b, p, t, u, e1, e2, by rw [List.getElem?_drop]; exact e3⟩
variable {elt iter c : PySem.Expr} {scope : Scope} {cl : List (Str × Addr)} {env : Env} {m : Str → Option Value}
/-- pairs of a list, picked by a test -/
theorem LCq {x : Str} {px : Pos} {rs : List Value} {ps : List (Int × Int)} {Fin : Addr → Shared → Prop} (p : Int × Int → Bool) (V : Vw env s.heap m) (hn : ps.length ≤ sizeLine) (htg : scope.names.lookup x = some .local ∨ scope.names.lookup x = some .cell) (hP : PairsAre s.heap rs ps)
    (src : wpAny (model prog w) A (eval iter env) (fun xv s₁ => wpAny (model prog w) A (pyIter xv) (SrcP prog w A s (.Name x px) rs.length (BList x rs)) E s₁) E s)
    (test : ∀ C (s₃ : Shared) b q t u, s.heap.objs.size ≤ C → s₃.heap.IsTuple b #[.int (Prod.fst q) t, .int (Prod.snd q) u] → Sub s.heap s₃.heap → Vb scope cl C env m [(x, .ref b)] s₃.heap → (AllBare s.gens → AllBare s₃.gens) →
      wpAny (model prog w) A (PySem.isTrue c (blockEnv scope cl C env) (eval c (blockEnv scope cl C env))) (PostB s₃ (p q)) (fun _ _ => False) s₃)
    (turn : ∀ C (s₃ : Shared) b, s.heap.objs.size ≤ C → Vb scope cl C env m [(x, .ref b)] s₃.heap →
      wpAny (model prog w) A (eval elt (blockEnv scope cl C env)) (Post s₃ (fun y _ => y = .ref b)) (fun _ _ => False) s₃)
    (fin : ∀ D ys h' gs tk, (∀ G', PairsAre G' rs ps → PairsAre G' ys (ps.filter p)) → s.heap.get? D = none → DL h' D ys → Sub s.heap h' → Vw env h' m → (AllBare s.gens → AllBare gs) → Fin D { s with heap := h', gens := gs, toks := tk }) :
    wpAny (model prog w) A (eval iter env) (fun xv s₁ => wpAny (model prog w) A (pyIter xv) (fun it s₂ => CRest prog w A elt (.Name x px) [c] scope cl env m Fin it s₂) E s₁) E s := by
  refine LCs [x] (fun i ys _ => ∀ G', PairsAre G' rs ps → PairsAre G' ys ((ps.take i).filter p)) V (by rw [hP.1]; exact hn) BList.tg (List.forall_mem_cons.mpr ⟨htg, fun _ h => nomatch h⟩) (by simp) src (fun _ _ _ _ => ⟨rfl, fun i v e => by simp at e⟩) (fun C i ys G s₃ bs hC hi hb hJ hG hGs V₃ bare => ctests_one ?_)
    (fun D ys G h' gs tk hJ _ hGh _ hD hDL k V' bare => fin D ys h' gs tk (by rw [hP.1, List.take_length] at hJ; exact hJ) hD hDL k V' bare)
  obtain ⟨v, rfl, hv⟩ := hb
  obtain ⟨b, q, t, u, rfl, hT, hq⟩ := hP.2 i v hv
  have hTG : G.IsTuple b #[.int q.1 t, .int q.2 u] := hT.at fun o e => hG b o e
  refine wpAny_mono (test C s₃ b q t u hC (hTG.at fun o e => hGs b o e) (hG.trans hGs) V₃ bare) (fun ok s₄ r => ?_) fun _ _ z => z
  obtain ⟨rfl, h', gs, tk, rfl, gr⟩ := r
  refine ⟨h', gs, tk, rfl, gr, ?_⟩
  cases hp : p q with
  | false =>
    simp only [Bool.false_eq_true, if_false]
    intro G2 hG2
    rw [List.take_add_one, hq, List.filter_append]
    simpa [hp] using hJ G2 hG2
  | true =>
    simp only [if_true]
    refine wpAny_mono (turn C { s₃ with heap := h', gens := gs, toks := tk } b hC (V₃.keeps gr.sub)) (fun y s₅ r => ?_) fun _ _ z => z
    obtain ⟨h2, gs2, tk2, rfl, gr2, rfl⟩ := r
    refine ⟨h2, gs2, tk2, rfl, ⟨gr.sub.trans gr2.sub, fun z => gr2.bare (gr.bare z)⟩, fun G' kG _ => ?_⟩
    intro G2 hG2
    obtain ⟨b2, q2, t2, u2, e1, e2, e3⟩ := hG2.2 i _ hv
    cases e1
    rw [hq] at e3
    cases e3
    rw [List.take_add_one, hq, List.filter_append]
    simpa [hp] using (hJ G2 hG2).app (p := q) e2
end
end RS
end PartL5

section PartR2
namespace RS
def Disj (p q : Int × Int) : Prop := ¬ ∃ x : Int, p.2 ∣ x - p.1 ∧ q.2 ∣ x - q.1
theorem Disj.symm {p q : Int × Int} (h : Disj p q) : Disj q p := fun ⟨x, a, b⟩ => h ⟨x, b, a⟩
theorem Disj.irrefl {p : Int × Int} : ¬ Disj p p := fun h => h ⟨p.1, by simp, by simp⟩
def RInv (ps : List (Int × Int)) : Prop := ps.Pairwise Disj ∧ (∀ p ∈ ps, 1 ≤ p.1 ∧ p.1 ≤ p.2 ∧ p.2 ≤ 2 ^ (ps.length - 1)) ∧ 1 ≤ ps.length ∧ ps.length ≤ 5
theorem RInv.start : RInv [(1, 1)] := ⟨List.pairwise_singleton _ _, by simp, by simp, by simp⟩
theorem pw_nodup {ps : List (Int × Int)} (h : ps.Pairwise Disj) : ps.Nodup := List.Pairwise.imp (fun {a b} (h : Disj a b) (e : a = b) => Disj.irrefl (e ▸ h)) h
theorem pw_mem {ps : List (Int × Int)} (h : ps.Pairwise Disj) {p q : Int × Int} (hp : p ∈ ps) (hq : q ∈ ps) (hne : q ≠ p) : Disj q p := by
  obtain ⟨i, hi, rfl⟩ := List.mem_iff_getElem.mp hp
  obtain ⟨j, hj, rfl⟩ := List.mem_iff_getElem.mp hq
  rcases Nat.lt_trichotomy i j with h1 | h1 | h1
  · exact (List.pairwise_iff_getElem.mp h i j hi hj h1).symm
  · subst h1; exact absurd rfl hne
  · exact List.pairwise_iff_getElem.mp h j i hj hi h1
def splitOf (p : Int × Int) (parts : Int) : List (Int × Int) := (List.range parts.toNat).map fun i : Nat => (p.1 + p.2 * (0 + (i : Int)), p.2 * parts)
theorem sub_class {f k P i x : Int} (h : k * P ∣ x - (f + k * i)) : k ∣ x - f := by
  obtain ⟨c, hc⟩ := h
  refine ⟨P * c + i, ?_⟩
  rw [Int.mul_add, ← Int.mul_assoc, ← hc]
  lia
theorem two_class {f k i x : Int} (hk : 0 < k) (P j : Int) (h : k * P ∣ x - (f + k * i)) (h2 : k * P ∣ x - (f + k * j)) : P ∣ i - j := by
  have h3 := Int.dvd_sub h2 h
  have e : x - (f + k * j) - (x - (f + k * i)) = k * (i - j) := by rw [Int.mul_sub]; lia
  rw [e] at h3
  exact Int.dvd_of_mul_dvd_mul_left (by lia) h3
theorem RInv.split {ps : List (Int × Int)} (h : RInv ps) {p : Int × Int} (hp : p ∈ ps) {parts : Int} (h2 : parts = 2 ∨ parts = 3) (hl : (ps.length : Int) + parts ≤ 6) :
    RInv (ps.filter (fun q => decide ((q.1, q.2) ≠ (p.1, p.2))) ++ splitOf p parts) := by
  obtain ⟨h1, hb, hl1, hl5⟩ := h
  have hnd := pw_nodup h1
  have hlen : (ps.filter (fun q => decide ((q.1, q.2) ≠ (p.1, p.2)))).length = ps.length - 1 := by
    have e : ps.filter (fun q => decide ((q.1, q.2) ≠ (p.1, p.2))) = ps.erase p := by
      rw [hnd.erase_eq_filter]
      congr 1
      funext q
      by_cases e : q = p
      · subst e; simp
      · simp [e]
    rw [e, List.length_erase_of_mem hp]
  have hsl : (splitOf p parts).length = parts.toNat := by simp [splitOf]
  obtain ⟨b1, b2, b3⟩ := hb p hp
  have hmem : ∀ q ∈ ps.filter (fun q => decide ((q.1, q.2) ≠ (p.1, p.2))), q ∈ ps ∧ q ≠ p := fun q hq => by
    obtain ⟨a, b⟩ := List.mem_filter.mp hq
    exact ⟨a, fun e => by subst e; simp at b⟩
  have hsm : ∀ q ∈ splitOf p parts, ∃ i : Nat, (i : Int) < parts ∧ q = (p.1 + p.2 * (0 + (i : Int)), p.2 * parts) := fun q hq => by
    obtain ⟨i, hi, rfl⟩ := List.mem_map.mp hq
    exact ⟨i, by have := List.mem_range.mp hi; lia, rfl⟩
  have htot : (ps.filter (fun q => decide ((q.1, q.2) ≠ (p.1, p.2))) ++ splitOf p parts).length = ps.length - 1 + parts.toNat := by rw [List.length_append, hlen, hsl]
  refine ⟨List.pairwise_append.mpr ⟨h1.sublist List.filter_sublist, ?_, fun q hq r hr => ?_⟩, fun q hq => ?_, by rw [htot]; lia, by rw [htot]; lia⟩
  · rw [splitOf, List.pairwise_map]
    refine List.Pairwise.imp (R := fun i j : Nat => i < j ∧ (j : Int) < parts) ?_ (List.pairwise_iff_getElem.mpr fun i j hi hj hij => ?_)
    · rintro i j ⟨hij, hj⟩ ⟨x, a, b⟩
      have := two_class (f := p.1) (k := p.2) (by lia) parts _ b a
      dsimp only at a b
      rcases h2 with rfl | rfl <;> lia
    · simp only [List.getElem_range, List.length_range] at hi hj ⊢
      lia
  · obtain ⟨hq1, hq2⟩ := hmem q hq
    obtain ⟨i, _, rfl⟩ := hsm r hr
    rintro ⟨x, a, b⟩
    exact pw_mem h1 hp hq1 hq2 ⟨x, a, sub_class b⟩
  · rw [htot]
    have hpow : (2 : Int) ^ (ps.length - 1 + parts.toNat - 1) = 2 ^ (ps.length - 1) * 2 ^ (parts.toNat - 1) := by
      rw [← Int.pow_add]
      congr 1
      lia
    rw [hpow]
    rcases List.mem_append.mp hq with hq | hq
    · obtain ⟨c1, c2, c3⟩ := hb q (hmem q hq).1
      refine ⟨c1, c2, ?_⟩
      rcases h2 with rfl | rfl
      · show q.2 ≤ 2 ^ (ps.length - 1) * 2; lia
      · show q.2 ≤ 2 ^ (ps.length - 1) * 4; lia
    · obtain ⟨i, hi, rfl⟩ := hsm q hq
      dsimp only
      rcases h2 with rfl | rfl
      · rcases (by lia : i = 0 ∨ i = 1) with rfl | rfl
        · show _ ∧ _ ∧ p.2 * 2 ≤ 2 ^ (ps.length - 1) * 2; lia
        · show _ ∧ _ ∧ p.2 * 2 ≤ 2 ^ (ps.length - 1) * 2; lia
      · rcases (by lia : i = 0 ∨ i = 1 ∨ i = 2) with rfl | rfl | rfl
        · show _ ∧ _ ∧ p.2 * 3 ≤ 2 ^ (ps.length - 1) * 4; lia
        · show _ ∧ _ ∧ p.2 * 3 ≤ 2 ^ (ps.length - 1) * 4; lia
        · show _ ∧ _ ∧ p.2 * 3 ≤ 2 ^ (ps.length - 1) * 4; lia
/-- first marks and steps as the law wants them -/
def ROk (K : Int) (ps : List (Int × Int)) : Prop := 1 ≤ ps.length ∧ ps.length ≤ 5 ∧ ∀ p ∈ ps, 1 ≤ p.1 ∧ p.1 ≤ p.2 ∧ p.2 ≤ K
theorem RInv.ok {ps : List (Int × Int)} (h : RInv ps) : ROk 30 ps := by
  refine ⟨h.2.2.1, h.2.2.2, fun p hp => ?_⟩
  obtain ⟨a, b, c⟩ := h.2.1 p hp
  refine ⟨a, b, ?_⟩
  have h1 := h.2.2.1
  have h2 := h.2.2.2
  have : ps.length - 1 = 0 ∨ ps.length - 1 = 1 ∨ ps.length - 1 = 2 ∨ ps.length - 1 = 3 ∨ ps.length - 1 = 4 := by lia
  rcases this with e | e | e | e | e <;> rw [e] at c <;> lia
theorem ROk.drawn (f : Nat → Int) (h : ∀ i, 0 ≤ f i) : ROk 30 ((List.range 4).map fun i => (1 + f i / 3 % (2 + f i % 3), 2 + f i % 3)) := by
  refine ⟨by simp, by simp, fun p hp => ?_⟩
  obtain ⟨i, _, rfl⟩ := List.mem_map.mp hp
  have := h i
  have h1 := Int.emod_nonneg (f i) (b := 3) (by decide)
  have h2 := Int.emod_lt_of_pos (f i) (b := 3) (by decide)
  have h3 := Int.emod_nonneg (f i / 3) (b := 2 + f i % 3) (by lia)
  have h4 := Int.emod_lt_of_pos (f i / 3) (b := 2 + f i % 3) (by lia)
  exact ⟨by dsimp only; lia, by dsimp only; lia, by dsimp only; lia⟩
theorem ROk.shift {K : Int} {ps : List (Int × Int)} (h : ROk K ps) (s : Int) (d : Nat → Int × Int) (hd : ∀ i p, ps[i]? = some p → d i = ((p.1 - 1 + s) % p.2 + 1, p.2)) : ROk K ((List.range ps.length).map d) := by
  refine ⟨by simpa using h.1, by simpa using h.2.1, fun q hq => ?_⟩
  obtain ⟨i, hi, rfl⟩ := List.mem_map.mp hq
  have hi := List.mem_range.mp hi
  rw [hd i _ (List.getElem?_eq_getElem hi)]
  obtain ⟨a, b, c⟩ := h.2.2 _ (List.getElem_mem hi)
  have h3 := Int.emod_nonneg (ps[i].1 - 1 + s) (b := ps[i].2) (by lia)
  have h4 := Int.emod_lt_of_pos (ps[i].1 - 1 + s) (b := ps[i].2) (by lia)
  exact ⟨by dsimp only; lia, by dsimp only; lia, c⟩
/-- what the law's rulers are in the end -/
def RFin (ps : List (Int × Int)) : Prop := ps.length ≤ 5 ∧ ∀ p ∈ ps, 1 ≤ p.1 ∧ p.1 ≤ p.2 ∧ p.2 ≤ 60
theorem ROk.fin {ps : List (Int × Int)} (h : ROk 30 ps) {k : Nat} (hk : k < ps.length) {bs : List (Int × Int)} (hb : bs.length ≤ 1) (hb2 : ∀ p ∈ bs, 1 ≤ p.1 ∧ p.1 ≤ p.2 ∧ p.2 ≤ 60) : RFin (ps.take k ++ bs ++ ps.drop (k + 1)) := by
  have := h.2.1
  refine ⟨by simp only [List.length_append, List.length_take, List.length_drop]; lia, fun p hp => ?_⟩
  rcases List.mem_append.mp hp with hp | hp
  · rcases List.mem_append.mp hp with hp | hp
    · obtain ⟨a, b, c⟩ := h.2.2 p (List.mem_of_mem_take hp)
      exact ⟨a, b, by lia⟩
    · exact hb2 p hp
  · obtain ⟨a, b, c⟩ := h.2.2 p (List.mem_of_mem_drop hp)
    exact ⟨a, b, by lia⟩
end RS
end PartR2

section PartS1
open PySem PySem.W PyProof.Rows PySem.Calls
set_option Elab.async false
set_option maxRecDepth 100000
namespace RS
/-- the places of a set's table, lowest first -/
def Rise (xs : Array Nat) : Prop := xs.toList.Pairwise (· < ·)
theorem Rise.lt {xs : Array Nat} (h : Rise xs) {a b : Nat} (hab : a < b) (hb : b < xs.size) : xs[a]'(by lia) < xs[b] := by
  have := List.pairwise_iff_getElem.mp h a b (by simpa using (by lia : a < xs.size)) (by simpa using hb) hab
  simpa using this
theorem getD_in {xs : Array Nat} {i d : Nat} (h : i < xs.size) : xs.getD i d = xs[i] := by simp [Array.getD, h]
theorem below_go {xs : Array Nat} {j : Nat} (hr : Rise xs) : ∀ (fuel lo hi : Nat), hi - lo ≤ fuel → lo ≤ hi → hi ≤ xs.size → (∀ i (h : i < xs.size), i < lo → xs[i] < j) → (∀ i (h : i < xs.size), hi ≤ i → j ≤ xs[i]) →
    SetTable.below.go xs j fuel lo hi ≤ xs.size ∧ (∀ i (h : i < xs.size), i < SetTable.below.go xs j fuel lo hi → xs[i] < j) ∧ ∀ i (h : i < xs.size), SetTable.below.go xs j fuel lo hi ≤ i → j ≤ xs[i]
  | 0, lo, hi, hf, hl, hh, h1, h2 => by
    have : lo = hi := by lia
    subst this
    exact ⟨hh, h1, h2⟩
  | fuel + 1, lo, hi, hf, hl, hh, h1, h2 => by
    unfold SetTable.below.go
    by_cases c : lo < hi
    · rw [if_pos c]
      dsimp only
      have hm1 : (lo + hi) / 2 < hi := by lia
      have hm0 : lo ≤ (lo + hi) / 2 := by lia
      rw [getD_in (by lia : (lo + hi) / 2 < xs.size)]
      by_cases q : xs[(lo + hi) / 2]'(by lia) < j
      · rw [if_pos q]
        refine below_go hr fuel _ _ (by lia) (by lia) hh (fun i h hi' => ?_) h2
        by_cases e : i = (lo + hi) / 2
        · subst e; exact q
        · have := hr.lt (a := i) (b := (lo + hi) / 2) (by lia) (by lia); lia
      · rw [if_neg q]
        refine below_go hr fuel _ _ (by lia) (by lia) (by lia) h1 (fun i h hi' => ?_)
        by_cases e : i = (lo + hi) / 2
        · subst e; lia
        · have := hr.lt (a := (lo + hi) / 2) (b := i) (by lia) h; lia
    · rw [if_neg c]
      have : lo = hi := by lia
      subst this
      exact ⟨hh, h1, h2⟩
theorem below_spec {xs : Array Nat} (hr : Rise xs) (j : Nat) : SetTable.below xs j ≤ xs.size ∧ (∀ i (h : i < xs.size), i < SetTable.below xs j → xs[i] < j) ∧ ∀ i (h : i < xs.size), SetTable.below xs j ≤ i → j ≤ xs[i] := by
  unfold SetTable.below
  exact below_go hr _ _ _ (by lia) (Nat.zero_le _) (Nat.le_refl _) (fun i _ h => absurd h (Nat.not_lt_zero _)) (fun i h h' => absurd h (by lia))
theorem rise_insert {xs : Array Nat} (hr : Rise xs) {j : Nat} (hj : xs[SetTable.below xs j]? ≠ some j) : Rise (SetTable.insertAt xs (SetTable.below xs j) j) := by
  obtain ⟨b1, b2, b3⟩ := below_spec hr j
  unfold Rise
  rw [SetTable.toList_insertAt]
  have hgt : ∀ y ∈ xs.toList.drop (SetTable.below xs j), j < y := fun y hy => by
    obtain ⟨k, hk, rfl⟩ := List.mem_iff_getElem.mp hy
    rw [List.getElem_drop]
    rw [List.length_drop, Array.length_toList] at hk
    have h0 : SetTable.below xs j < xs.size := by lia
    have h1 := b3 _ h0 (Nat.le_refl _)
    have h2 : xs[SetTable.below xs j] ≠ j := fun e => hj (by rw [Array.getElem?_eq_getElem h0, e])
    rw [Array.getElem_toList]
    by_cases e : k = 0
    · subst e; simp only [Nat.add_zero]; lia
    · have := hr.lt (a := SetTable.below xs j) (b := SetTable.below xs j + k) (by lia) (by lia); lia
  refine List.pairwise_append.mpr ⟨hr.sublist (List.take_sublist _ _), List.pairwise_cons.mpr ⟨hgt, hr.sublist (List.drop_sublist _ _)⟩, fun y hy z hz => ?_⟩
  obtain ⟨k, hk, rfl⟩ := List.mem_iff_getElem.mp hy
  rw [List.getElem_take, Array.getElem_toList]
  rw [List.length_take, Array.length_toList] at hk
  have h1 := b2 k (by lia) (by lia)
  rcases List.mem_cons.mp hz with rfl | hz
  · exact h1
  · have := hgt z hz; lia
/-- a table whose walk is known -/
def TInv (t : SetTable) : Prop := t.plain = false ∨ (Rise t.place ∧ t.dummies = #[])
theorem TInv.fresh (led : Bool) : TInv (.fresh 0 0 led) := .inr ⟨List.Pairwise.nil, rfl⟩
theorem has_nil (j : Nat) : SetTable.has #[] j = false := by
  unfold SetTable.has
  simp
theorem slot_empty {t : SetTable} {j : Nat} (h : t.slot j = .empty) : t.place[SetTable.below t.place j]? ≠ some j := by
  unfold SetTable.slot at h
  dsimp only at h
  intro e
  rw [e] at h
  simp at h
theorem probe_go {t : SetTable} {hashAt : Nat → Int} {h : Int} (hd : t.dummies = #[]) : ∀ (fuel : Nat) (p : SetTable.Probe) (j : Nat) (d : Option Nat), SetTable.probe.go t hashAt h fuel p = some (.empty j d) → p.dummy = none → t.slot j = .empty ∧ d = none
  | 0, p, j, d, e, _ => by cases e
  | fuel + 1, p, j, d, e, hp => by
    have hadv : (t.advance p).dummy = none := by
      unfold SetTable.advance
      split
      · exact hp
      · exact hp
    unfold SetTable.probe.go at e
    split at e
    · rename_i hs
      cases e
      exact ⟨hs, hp⟩
    · rename_i hs
      unfold SetTable.slot at hs
      rw [hd, has_nil] at hs
      dsimp only at hs
      split at hs <;> simp at hs
    · split at e
      · cases e
      · exact probe_go hd fuel _ _ _ e hadv
theorem TInv.standIn (t : SetTable) (n : Nat) : TInv (t.standIn n) := .inl rfl
theorem TInv.orStandIn {t : SetTable} (h : TInv t) (n : Nat) : TInv (t.orStandIn n) := by
  unfold SetTable.orStandIn
  split
  · exact h
  · exact .standIn _ _
theorem led_orStandIn (t : SetTable) (n : Nat) : (t.orStandIn n).led = t.led := by
  unfold SetTable.orStandIn
  split <;> rfl
theorem TInv.layNew {t : SetTable} (h : TInv t) (es : Array (Int × Value)) (hv : Int) (x : Value) : TInv (layNew t es hv x).2.1 ∧ (layNew t es hv x).2.1.led = t.led := by
  unfold PySem.layNew
  cases e : t.freeSlot hv with
  | none => exact ⟨.standIn _ _, rfl⟩
  | some r =>
    obtain ⟨slot, wd⟩ := r
    dsimp only
    refine ⟨TInv.orStandIn ?_ _, led_orStandIn _ _⟩
    rcases h with h | ⟨h1, h2⟩
    · exact .inl h
    · unfold SetTable.freeSlot at e
      split at e
      · rename_i j dm hpr
        cases e
        obtain ⟨hs, rfl⟩ := probe_go h2 _ _ _ _ hpr rfl
        refine .inr ⟨rise_insert h1 (slot_empty hs), ?_⟩
        show (if SetTable.has t.dummies _ then _ else t.dummies) = #[]
        rw [h2, has_nil]
        rfl
      · cases e
theorem TInv.relayAll {t : SetTable} (es : Array (Int × Value)) (wanted : Nat) : TInv (relayAll t es wanted).2.1 ∧ (relayAll t es wanted).2.1.led = t.led := by
  unfold PySem.relayAll
  cases e : t.relaid (es.map (·.1)) wanted with
  | none => exact ⟨.standIn _ _, rfl⟩
  | some r =>
    obtain ⟨t', order⟩ := r
    dsimp only
    split
    · unfold SetTable.relaid SetTable.laid at e
      cases e2 : SetTable.layClean (SetTable.sizeAbove wanted - 1) (es.map (·.1)) with
      | none => rw [e2] at e; cases e
      | some owner =>
        rw [e2] at e
        simp only [Option.bind_eq_bind, Option.bind_some, Option.pure_def, Option.some.injEq, Prod.mk.injEq] at e
        obtain ⟨rfl, rfl⟩ := e
        refine ⟨.inr ⟨?_, rfl⟩, rfl⟩
        unfold Rise
        simp only [List.toList_toArray]
        have key : ∀ (l : List Nat), l.Pairwise (· < ·) → ((l.filterMap fun j => (owner.getD j none).map (j, ·)).map (·.1)).Pairwise (· < ·) := by
          intro l hl
          have : (l.filterMap fun j => (owner.getD j none).map (j, ·)).map (·.1) = l.filter (fun j => (owner.getD j none).isSome) := by
            clear hl
            induction l with
            | nil => rfl
            | cons a r ih =>
              rw [List.filterMap_cons, List.filter_cons]
              cases q : owner.getD a none with
              | none => simpa using ih
              | some b => simpa using ih
          rw [this]
          exact hl.sublist List.filter_sublist
        exact key _ List.pairwise_lt_range
    · exact ⟨.standIn _ _, rfl⟩
end RS
end PartS1

section PartS2
open PySem PySem.W PyProof.Rows PySem.Calls
set_option Elab.async false
set_option maxRecDepth 100000
namespace RS
section
variable (prog : Program) (w : World)
/-- a set of ints whose walk is known -/
inductive SetI (h : Heap) (a : Addr) (ms : List Int) (led : Bool) : Prop
  | intro (o : Obj) (es : Array (Int × Value)) (ep : Nat) (t : SetTable) (q0_ : h.get? a = some o) (q1_ : o.ExactSet) (q2_ : o.data = .set es ep t) (q3_ : ElemsOf (intKind prog w) es.toList) (q4_ : (es.toList.map fun e => numOf e.2).Perm ms) (q5_ : es.size < scanBound) (q6_ : t.fits es.size = true) (q7_ : TInv t) (q8_ : t.led = led)
end
section
variable {prog : Program} {w : World} {A : Around} {E : Value → Shared → Prop} {s : Shared}
theorem SetI.at {h h' : Heap} {a : Addr} {ms : List Int} {led : Bool} (x : SetI prog w h a ms led) (k : ∀ o, h.get? a = some o → h'.get? a = some o) : SetI prog w h' a ms led :=
  let ⟨o, es, ep, t, e, r1, r2, r3, r4, r5, r6, r7, r8⟩ := x; ⟨o, es, ep, t, k _ e, r1, r2, r3, r4, r5, r6, r7, r8⟩
theorem numOf_is {k : Int} {v : Value} (h : (intKind prog w).is k v = true) : numOf v = k := by
  obtain ⟨t, rfl⟩ := Value.isInt_shape (show Value.isInt k v = true from h)
  rfl
theorem set_store {h : Heap} {a : Addr} {o : Obj} {es : Array (Int × Value)} {ep : Nat} {t : SetTable} (ho : h.get? a = some o) (hd : o.data = .set es ep t) (es' : Array (Int × Value)) (t' : SetTable) :
    (h.update a (Obj.putSet es' t')).get? a = some { o with data := .set es' (ep + 1) t' } := by
  have := Heap.get?_update_self (Obj.putSet es' t') ho (by rw [putSet_of es' t' hd]; rfl)
  rw [putSet_of es' t' hd] at this
  exact this
end
namespace Ad
abbrev V : Type := (Program) × (World) × (Around) × (Value → Shared → Prop) × (Shared) × (Addr) × (List Int) × (Bool) × (Int) × (Tok) × (Bool → Shared → Prop)
def Say (prog : Program) (w : World) (A : Around) (E : Value → Shared → Prop) (s : Shared) (a : Addr) (ms : List Int) (led : Bool) (x : Int) (tx : Tok) (Q : Bool → Shared → Prop) : Prop := ∀ (hS : SetI prog w s.heap a ms led) (hroom : ms.length + 1 < scanBound) (h : ∀ h' b, Heap.SameBut a s.heap h' → SetI prog w h' a (if x ∈ ms then ms else ms ++ [x]) led → Q b { s with heap := h' }),
    wpAny (model prog w) A (setAddHashed a (.int x tx) ((intKind prog w).hash x)) Q E s
theorem ne : Nonempty V := ⟨(default, (Classical.choice neW), {}, (fun _ _ => True), {}, 0, [], default, 0, 0, (fun _ _ => True))⟩
noncomputable def c : V := pick ne fun v => Say v.1 v.2.1 v.2.2.1 v.2.2.2.1 v.2.2.2.2.1 v.2.2.2.2.2.1 v.2.2.2.2.2.2.1 v.2.2.2.2.2.2.2.1 v.2.2.2.2.2.2.2.2.1 v.2.2.2.2.2.2.2.2.2.1 v.2.2.2.2.2.2.2.2.2.2
@[irreducible] noncomputable def prog : Program := c.1
@[irreducible] noncomputable def w : World := c.2.1
@[irreducible] noncomputable def A : Around := c.2.2.1
@[irreducible] noncomputable def E : Value → Shared → Prop := c.2.2.2.1
@[irreducible] noncomputable def s : Shared := c.2.2.2.2.1
@[irreducible] noncomputable def a : Addr := c.2.2.2.2.2.1
@[irreducible] noncomputable def ms : List Int := c.2.2.2.2.2.2.1
@[irreducible] noncomputable def led : Bool := c.2.2.2.2.2.2.2.1
@[irreducible] noncomputable def x : Int := c.2.2.2.2.2.2.2.2.1
@[irreducible] noncomputable def tx : Tok := c.2.2.2.2.2.2.2.2.2.1
@[irreducible] noncomputable def Q : Bool → Shared → Prop := c.2.2.2.2.2.2.2.2.2.2
theorem spec_c : Say prog w A E s a ms led x tx Q := by
  intro hS hroom h
  obtain ⟨o, es, ep, t, ho, hex, hd, hel, hms, hb, hf, ht, hled⟩ := hS
  have hkey := intKind_is prog w x tx
  have hlen : es.size = ms.length := by have := hms.length_eq; simpa using this
  have hmem : ∀ k, k ∈ ms ↔ ∃ e ∈ es.toList, (intKind prog w).is k e.2 = true := fun k => by
    rw [← hms.mem_iff, List.mem_map]
    constructor
    · rintro ⟨e, he, rfl⟩
      obtain ⟨⟨k', hk', _⟩, _⟩ := hel e he
      exact ⟨e, he, by rw [numOf_is hk']; exact hk'⟩
    · rintro ⟨e, he, hk⟩
      exact ⟨e, he, numOf_is hk⟩
  unfold setAddHashed setAddHashedIn
  refine wpAny_holding (wpAny_bind (wpAny_setState_of ho hd hf ?_))
  dsimp only
  rw [byScan_of (by rfl) hb hel]
  simp only [↓reduceIte]
  unfold setAddByScan
  refine wpAny_bind (wpAny_bind (wpAny_rule (wpAny_bind (wpAny_setScan_of hkey ho hd hf hel ?_))))
  have hgave : ∀ (g : Bool) {s₁ : Shared} {Q' : Unit → Shared → Prop}, Q' () s₁ → wpAny (model prog w) A (match g with | true => rule "set.scan.the-table-gave-way" | false => pure ()) Q' E s₁ := by
    intro g s₁ Q' hq
    cases g
    · exact wpAny_pure hq
    · exact wpAny_rule hq
  cases hr : es.toList.findIdx? (fun e => (intKind prog w).is x e.2) with
  | some j =>
    dsimp only
    obtain ⟨hj, hpj, _⟩ := List.findIdx?_eq_some_iff_getElem.mp hr
    have hx : x ∈ ms := (hmem x).mpr ⟨_, List.getElem_mem hj, hpj⟩
    refine wpAny_pure (wpAny_pure ?_)
    exact h s.heap false (Heap.SameBut.refl a s.heap) (by rw [if_pos hx]; exact ⟨o, es, ep, t, ho, hex, hd, hel, hms, hb, hf, ht, hled⟩)
  | none =>
    dsimp only
    have hx : x ∉ ms := fun q => by
      obtain ⟨e, he, hp⟩ := (hmem x).mp q
      have := List.findIdx?_eq_none_iff.mp hr e he
      rw [hp] at this; cases this
    have hperm := layNew_perm t es ((intKind prog w).hash x) (.int x tx)
    have hfits := layNew_fits t es ((intKind prog w).hash x) (.int x tx)
    obtain ⟨hinv, hled1⟩ := ht.layNew es ((intKind prog w).hash x) (.int x tx)
    generalize layNew t es ((intKind prog w).hash x) (.int x tx) = L at hperm hfits hinv hled1 ⊢
    obtain ⟨es1, t1, wd, gave⟩ := L
    dsimp only at hperm hfits hinv hled1 ⊢
    rw [Array.toList_push] at hperm
    have hel1 : ElemsOf (intKind prog w) es1.toList := (hel.push hkey (by rfl)).perm hperm
    have hms1 : (es1.toList.map fun e => numOf e.2).Perm (ms ++ [x]) := by
      refine (hperm.map _).trans ?_
      rw [List.map_append]
      exact hms.append_right _
    have hsz1 : es1.size = ms.length + 1 := by rw [← Array.length_toList, hperm.length_eq, List.length_append, Array.length_toList, hlen]; rfl
    have hb1 : es1.size < scanBound := by rw [hsz1]; exact hroom
    have hend : ∀ h' b, Heap.SameBut a s.heap h' → SetI prog w h' a (ms ++ [x]) led → Q b { s with heap := h' } := fun h' b k q => h h' b k (by rw [if_neg hx]; exact q)
    refine wpAny_bind (hgave gave ?_)
    have tail : ∀ (t2 : SetTable), t2.fits es1.size = true → TInv t2 → t2.led = led → ∀ {R : Option Bool → Shared → Prop}, (∀ h', Heap.SameBut a s.heap h' → SetI prog w h' a (ms ++ [x]) led → R (some true) { s with heap := h' }) →
        wpAny (model prog w) A (do
          storeSet a es1 t2
          if (!wd && t2.tooFull) = true then do
              (match (relayAll t2 es1 (SetTable.grown es1.size)).2.2 with | true => rule "set.scan.the-table-gave-way" | false => pure ())
              storeSet a (relayAll t2 es1 (SetTable.grown es1.size)).1 (relayAll t2 es1 (SetTable.grown es1.size)).2.1
              pure (some true)
            else pure (some true)) R E s := by
      intro t2 f2 i2 l2 R hR
      have g1 := set_store ho hd es1 t2
      have sb1 := Heap.SameBut.update s.heap a (Obj.putSet es1 t2)
      refine wpAny_bind (wpAny_storeSet_of ho hd ?_ (fits_of_scanBound hb1))
      split
      · have p2 := relayAll_perm t2 es1 (SetTable.grown es1.size)
        have f3 := relayAll_fits t2 es1 (SetTable.grown es1.size)
        obtain ⟨i3, l3⟩ := TInv.relayAll (t := t2) es1 (SetTable.grown es1.size)
        generalize relayAll t2 es1 (SetTable.grown es1.size) = Rl at p2 f3 i3 l3 ⊢
        obtain ⟨es2, t3, gv⟩ := Rl
        dsimp only at p2 f3 i3 l3 ⊢
        have hsz2 : es2.size = es1.size := by rw [← Array.length_toList, p2.length_eq, Array.length_toList]
        refine wpAny_bind (hgave gv ?_)
        refine wpAny_bind (wpAny_storeSet_of g1 rfl ?_ (fits_of_scanBound (by rw [hsz2]; exact hb1)))
        exact wpAny_pure (hR _ (sb1.trans (Heap.SameBut.update _ a _)) ⟨_, es2, _, t3, set_store g1 rfl es2 t3, hex, rfl, hel1.perm p2, (p2.map _).trans hms1, by rw [hsz2]; exact hb1, f3, i3, l3.trans l2⟩)
      · exact wpAny_pure (hR _ sb1 ⟨_, es1, _, t2, g1, hex, rfl, hel1, hms1, hb1, f2, i2, l2⟩)
    split
    · refine wpAny_bind ?_
      rw [hashByValue_scannable 8 (by rfl)]
      refine wpAny_pure ?_
      refine tail _ hfits hinv (hled1.trans hled) fun h' k q => ?_
      exact wpAny_pure (hend h' true k q)
    · refine wpAny_bind (wpAny_pure ?_)
      simp only [↓reduceIte]
      refine tail _ hfits hinv (hled1.trans hled) fun h' k q => ?_
      exact wpAny_pure (hend h' true k q)
theorem all : Say c.1 c.2.1 c.2.2.1 c.2.2.2.1 c.2.2.2.2.1 c.2.2.2.2.2.1 c.2.2.2.2.2.2.1 c.2.2.2.2.2.2.2.1 c.2.2.2.2.2.2.2.2.1 c.2.2.2.2.2.2.2.2.2.1 c.2.2.2.2.2.2.2.2.2.2 := by
  have h := spec_c
  unfold prog w A E s a ms led x tx Q at h
  exact h
end Ad
theorem addI {prog : Program} {w : World} {A : Around} {E : Value → Shared → Prop} {s : Shared} {a : Addr} {ms : List Int} {led : Bool} {x : Int} {tx : Tok} {Q : Bool → Shared → Prop} (hS : SetI prog w s.heap a ms led) (hroom : ms.length + 1 < scanBound)
    (h : ∀ h' b, Heap.SameBut a s.heap h' → SetI prog w h' a (if x ∈ ms then ms else ms ++ [x]) led → Q b { s with heap := h' }) :
    wpAny (model prog w) A (setAddHashed a (.int x tx) ((intKind prog w).hash x)) Q E s := by
  exact of_pick Ad.ne (fun v => Ad.Say v.1 v.2.1 v.2.2.1 v.2.2.2.1 v.2.2.2.2.1 v.2.2.2.2.2.1 v.2.2.2.2.2.2.1 v.2.2.2.2.2.2.2.1 v.2.2.2.2.2.2.2.2.1 v.2.2.2.2.2.2.2.2.2.1 v.2.2.2.2.2.2.2.2.2.2) Ad.all (prog, w, A, E, s, a, ms, led, x, tx, Q) hS hroom h
section
variable {prog : Program} {w : World} {A : Around} {E : Value → Shared → Prop} {s : Shared}
end
end RS
end PartS2

theorem RS.forgetS3 {prog : PySem.Program} {w : PySem.World} {A : PySem.Around} {env : PySem.Env} {Q : PySem.Flow → PySem.Shared → Prop} {E : PySem.Value → PySem.Shared → Prop} {s : PySem.Shared}
    (h : PySem.wpAny (PySem.model prog w) A (PySem.execs [] env) Q E s) : PySem.wpAny (PySem.model prog w) A (PySem.execs [] env) Q E s := by
  first | (walk1; fail "no") | skip
  w_top off
  exact h

section PartS3
open PySem PySem.W PyProof.Rows PySem.Calls
set_option Elab.async false
set_option maxRecDepth 100000
namespace RS
def Sub' (h h' : Heap) : Prop := ∀ b o, h.get? b = some o → h'.get? b = some o
def ddStep (acc : List Int) (x : Int) : List Int := if x ∈ acc then acc else acc ++ [x]
theorem dd_len : ∀ (ns acc : List Int), (ns.foldl ddStep acc).length ≤ acc.length + ns.length
  | [], _ => Nat.le_refl _
  | x :: ns, acc => by
    have h1 := dd_len ns (ddStep acc x)
    have h2 : (ddStep acc x).length ≤ acc.length + 1 := by
      unfold ddStep
      split
      · lia
      · simp
    rw [List.foldl_cons, List.length_cons]
    lia
theorem dd_mem (y : Int) : ∀ (ns acc : List Int), y ∈ ns.foldl ddStep acc ↔ y ∈ acc ∨ y ∈ ns
  | [], acc => by simp
  | x :: ns, acc => by
    rw [List.foldl_cons, dd_mem y ns, List.mem_cons]
    have e : y ∈ ddStep acc x ↔ y ∈ acc ∨ y = x := by
      unfold ddStep
      split
      · rename_i h
        exact ⟨.inl, fun q => q.elim id fun e => e ▸ h⟩
      · simp
    rw [e, or_assoc]
theorem dd_nodup : ∀ (ns acc : List Int), acc.Nodup → (ns.foldl ddStep acc).Nodup
  | [], _, h => h
  | x :: ns, acc, h => by
    refine dd_nodup ns _ ?_
    unfold ddStep
    split
    · exact h
    · rename_i hx
      exact List.nodup_append.mpr ⟨h, by simp, fun a ha b hb e => hx (by rw [List.mem_singleton.mp hb] at e; exact e ▸ ha)⟩
section
variable {prog : Program} {w : World} {A : Around} {E : Value → Shared → Prop} {s : Shared}
theorem set_loop {R : Result → Shared → Prop} {I l S : Addr} {vs : List Value} {ns : List Int} {led : Bool} (hh : A.in1.handled = none) (hlI : l ≠ I) (hSI : S ≠ I) (hSl : S ≠ l) (hi : IntsAre vs ns) (hb : ns.length + 1 < scanBound) :
    ∀ (k i : Nat) (h : Heap) (tk : Nat), ns.length - i = k → i ≤ ns.length → h.IsListIter I l i → h.IsList l vs.toArray → SetI prog w h S ((ns.take i).foldl ddStep []) led →
      (∀ h' tk', (∀ b o, b ≠ S → b ≠ I → h.get? b = some o → h'.get? b = some o) → SetI prog w h' S (ns.foldl ddStep []) led → R (.ok (.ret .none)) { s with heap := h', toks := tk' }) →
      codeAny (model prog w) A (.builtin "set.update.loop" ⟨[.ref S, .ref I], []⟩) R { s with heap := h, toks := tk } := by
  have W := Walks.list (prog := prog) (w := w) hh I l hlI vs.toArray
  intro k
  induction k with
  | zero =>
    intro i h tk hk hle hit hl hS hR
    have hin : i = ns.length := by lia
    have hiv : i = vs.toArray.size := by rw [hin, List.size_toArray, hi.length]
    refine codeAny_builtin F.entry_set_update_loop ?_
    rw [Around.under_plainId F.plain_set_update_loop _]
    show wpAny _ A.in1 (pyNext (.ref I) >>= _) _ _ _
    refine wpAny_bind (W.done _ _ _ ⟨hiv ▸ hit, hl⟩ fun h' tk' k' => ?_)
    show wpAny _ A.in1 (ret Value.none) _ _ _
    refine wpAny_pure (hR h' tk' (fun b o _ hb e => k' b o (by simpa using hb) e) ?_)
    rw [hin, List.take_length] at hS
    exact hS.at fun o e => k' S o (by simpa using hSI) e
  | succ k ih =>
    intro i h tk hk hle hit hl hS hR
    have hlt : i < ns.length := by lia
    have hlv : i < vs.toArray.size := by rw [List.size_toArray, hi.length]; exact hlt
    refine codeAny_builtin F.entry_set_update_loop ?_
    rw [Around.under_plainId F.plain_set_update_loop _]
    show wpAny _ A.in1 (pyNext (.ref I) >>= _) _ _ _
    refine wpAny_bind (W.item i _ _ _ hlv ⟨hit, hl⟩ fun v h' tk' hv st' k' => ?_)
    have k1 : ∀ b o, b ≠ I → h.get? b = some o → h'.get? b = some o := fun b o hb e => k' b o (by simpa using hb) e
    obtain ⟨t, rfl⟩ := IntsAre.int_at hi i v (by simpa using hv)
    show wpAny _ A.in1 (holding [Value.int (ns.getD i 0) t] (setAdd S (.int (ns.getD i 0) t)) >>= _) _ _ _
    refine wpAny_bind (wpAny_holding ?_)
    unfold setAdd
    refine wpAny_holding ?_
    refine wpAny_bind ((intKind prog w).pyHash (k := ns.getD i 0) (intKind_is _ _ _ _) ?_)
    have hlen : ((ns.take i).foldl ddStep []).length + 1 < scanBound := by have := dd_len (ns.take i) []; rw [List.length_take] at this; simp only [List.length_nil] at this; lia
    refine addI (hS.at fun o e => k1 S o hSI e) hlen fun h2 b sb hS2 => ?_
    have hgi : ns[i]? = some (ns.getD i 0) := by rw [List.getD_eq_getElem?_getD, List.getElem?_eq_getElem hlt]; rfl
    have hS3 : SetI prog w h2 S ((ns.take (i + 1)).foldl ddStep []) led := by
      rw [List.take_add_one, hgi, List.foldl_append]
      exact hS2
    have k2 : ∀ b o, b ≠ S → h'.get? b = some o → h2.get? b = some o := fun b o hb e => sb.extBut b o hb e
    refine wpAny_pure ⟨plainId_quiet F.plain_set_update_loop _, ih (i + 1) h2 _ (by lia) hlt (st'.1.at fun o e => k2 I o (Ne.symm hSI) e) (st'.2.at fun o e => k2 l o (Ne.symm hSl) e) hS3 fun h3 tk3 k3 hS4 => hR h3 tk3 (fun b o h1 h2 e => k3 b o h1 h2 (k2 b o h1 (k1 b o h2 e))) hS4⟩
/-- the order of sets by the world's own word -/
def byText (w : World) : Bool := w.params.followText "set-order"
theorem set_new (a : Value) {Q₁ : Value → Shared → Prop} (h : Q₁ (.ref s.heap.objs.size) { s with heap := s.heap.push { cls := .type "set", dict := none, data := .set #[] 0 (.fresh 0 0 (!byText w)) } }) :
    codeAny (model prog w) A (.call (.builtin "set.__new__") ⟨[.type "set", a], []⟩) (wants Q₁ E) s := by
  refine codeAny_of_tree ?_
  show wpAny _ A.in1 (do checkBuiltinCall "set.__new__" ⟨[.type "set", a], []⟩; again (.builtin "set.__new__" ⟨[.type "set", a], []⟩)) _ _ s
  refine wpAny_bind (wpAny_of_eq (F.newCall_set_1 a) (wpAny_pure ⟨plainId_quiet F.plain_set_new _, codeAny_builtin F.entry_set_new ?_⟩))
  rw [Around.under_plainId F.plain_set_new _]
  unfold Builtin.«set.__new__» Builtin.Frozenset.newClass
  have hsub := sub_set_self
  obtain ⟨hp, g, d, tk, os⟩ := s
  dsimp only at h ⊢
  wp_walk
  refine wpAny_askSetting (wpAny_pure ?_)
  dsimp only
  simp only [newObj]
  refine wpAny_bind (wpAny_alloc (wpAny_pure ?_))
  exact wpAny_pure h
set_option maxHeartbeats 3200000 in
/-- set(list of ints) -/
theorem set_list {l : Addr} {vs : List Value} {ns : List Int} {Q : Value → Shared → Prop} (hh : A.handled = none) (hl : s.heap.IsList l vs.toArray) (hi : IntsAre vs ns) (hb : ns.length + 1 < scanBound)
    (h : ∀ (h' : Heap) (tk : Nat), SetI prog w h' s.heap.objs.size (ns.foldl ddStep []) (!byText w) → (∀ b o, s.heap.get? b = some o → h'.get? b = some o) → Q (.ref s.heap.objs.size) { s with heap := h', toks := tk }) :
    wpAny (model prog w) A (call (.type "set") [.ref l]) Q E s := by
  obtain ⟨c, tl, hmro⟩ := F.called_set.mro
  have hmade := F.called_set.made
  have hsub := F.called_set.sub
  refine wpAny_call (codeAny_of_tree ?_)
  show wpAny _ _ (callAny (.type "set") _) _ _ _
  refine wpAny_pure ⟨Code.quiet_builtin _ (by decide +kernel), codeAny_builtin F.entry_type_call ?_⟩
  rw [Around.under_plain (weight_type_call_type "set" [.ref l] []) rfl]
  have h1 := F.called_set.notType
  have h2 := F.called_set.canCreate
  have hct := F.typeCall_set_1 (.ref l)
  repeat (any_goals (first | assumption | wp_step))
  refine codeAny_mono (set_new (.ref l) (E := E) (Q₁ := fun obj s₁ => obj = .ref s.heap.objs.size ∧ s₁ = { s with heap := s.heap.push { cls := .type "set", dict := none, data := .set #[] 0 (.fresh 0 0 (!byText w)) } }) ⟨rfl, rfl⟩) fun r s₁ hr => ?_
  rcases r with e | (_ | _ | _ | obj)
  · exact hr
  · exact hr.elim
  · exact hr.elim
  · exact hr.elim
  · obtain ⟨rfl, rfl⟩ := hr
    generalize hH1 : s.heap.push { cls := .type "set", dict := none, data := .set #[] 0 (.fresh 0 0 (!byText w)) } = h1
    have hS : h1.get? s.heap.objs.size = some { cls := .type "set", dict := none, data := .set #[] 0 (.fresh 0 0 (!byText w)) } := by rw [← hH1]; exact Heap.get?_push_size _ rfl
    have k1 : Sub' s.heap h1 := fun b o e => hH1 ▸ Heap.get?_push_of_some _ e
    have hz1 : h1.objs.size = s.heap.objs.size + 1 := by rw [← hH1]; exact Heap.size_push ..
    have hT : Shared.TypeIs { s with heap := h1 } (.ref s.heap.objs.size) "set" := ⟨_, hS, rfl⟩
    have hli := F.called_set.init.lookup
    have hbi := F.called_set.init.bind (.ref s.heap.objs.size)
    repeat (any_goals (first | assumption | wp_step))
    refine codeAny_mono (codeAny_call_builtin (R := wants (fun r s₂ => r = .none ∧ ∃ h' tk, s₂ = { s with heap := h', toks := tk } ∧ SetI prog w h' s.heap.objs.size (ns.foldl ddStep []) (!byText w) ∧ ∀ b o, s.heap.get? b = some o → h'.get? b = some o) E)
      F.called_set.init.plain F.entry_set_init (check_set_init_1 hT ?_)) fun r₂ s₂ hr₂ => ?_
    · obtain ⟨⟨ocls, odict, odata, oslots⟩, hol, hcl, nl, hdl⟩ := id hl
      simp only at hcl hdl
      subst hcl hdl
      have hol' := k1 _ _ hol
      have hsls := F.sub_list_set
      have hslf := F.sub_list_frozenset
      have hne : (Value.type "list" == Value.type "dict") = false := by decide
      have hl1 : h1.IsList l vs.toArray := hl.at fun o e => k1 l o e
      have hlS : @LT.lt Nat _ l s.heap.objs.size := Heap.lt_size hol
      unfold Builtin.«set.__init__» noKeywords Builtin.Frozenset.updateFrom
      generalize hPI : pyIter = PI
      wp_walk
      subst hPI
      refine wpAny_pyIter_list hl1 ?_
      refine wpAny_bind (wpAny_runValue ?_)
      have hH2 : ∀ b o, h1.get? b = some o → (h1.push { cls := .type "list_iterator", data := .fields #[.ref l, .int 0 0] }).get? b = some o := fun b o e => Heap.get?_push_of_some _ e
      refine set_loop (S := s.heap.objs.size) (I := h1.objs.size) (led := !byText w) (by simp [hh]) (by rw [hz1]; exact Nat.ne_of_lt (Nat.lt_succ_of_lt hlS)) (by rw [hz1]; exact Nat.ne_of_lt (Nat.lt_succ_self _)) (Nat.ne_of_gt hlS) hi hb (ns.length - 0) 0 _ _ rfl (Nat.zero_le _)
        ⟨_, Heap.get?_push_size _ rfl, rfl, rfl⟩ (hl1.at fun o e => hH2 l o e) ⟨_, #[], 0, _, hH2 _ _ hS, ⟨rfl, rfl, rfl⟩, rfl, fun e he => by simp at he, .nil, by decide, by rfl, .fresh _, rfl⟩ fun h3 tk3 k3 hS3 => ?_
      show wpAny _ _ _ _ _ _
      refine wpAny_pure ?_
      show wpAny _ _ (ret Value.none) _ _ _
      refine wpAny_pure ⟨rfl, h3, tk3, rfl, hS3, fun b o e => ?_⟩
      have hlt : @LT.lt Nat _ b s.heap.objs.size := Heap.lt_size e
      exact k3 b o (Nat.ne_of_lt hlt) (by rw [hz1]; exact Nat.ne_of_lt (Nat.lt_succ_of_lt hlt)) (hH2 _ _ (k1 _ _ e))
    · rcases r₂ with e | (_ | _ | _ | r)
      · exact hr₂
      · exact hr₂.elim
      · exact hr₂.elim
      · exact hr₂.elim
      · obtain ⟨rfl, h', tk, rfl, hS', hk'⟩ := hr₂
        repeat (any_goals (first | assumption | wp_step))
        exact h _ _ hS' hk'
end
end RS
end PartS3

theorem RS.forgetS4 {prog : PySem.Program} {w : PySem.World} {A : PySem.Around} {env : PySem.Env} {Q : PySem.Flow → PySem.Shared → Prop} {E : PySem.Value → PySem.Shared → Prop} {s : PySem.Shared}
    (h : PySem.wpAny (PySem.model prog w) A (PySem.execs [] env) Q E s) : PySem.wpAny (PySem.model prog w) A (PySem.execs [] env) Q E s := by
  first | (walk1; fail "no") | skip
  w_top off
  exact h

section PartS4
open PySem PySem.W PyProof.Rows PySem.Calls
set_option Elab.async false
set_option maxRecDepth 100000
namespace RS
namespace SF
theorem entry_set_iter : entryFor table "set.__iter__" = some Builtin.«frozenset.__iter__» :=
  entryFor_alias (id' := "frozenset.__iter__") (by kernel_rfl) (by first | rfl | decide +kernel) (by decide +kernel) (by kernel_rfl)
theorem owner_si : Manifest.owners.lookup (String.ofList ['r', 'o', 't', 'a', 'r', 'e', 't', 'i', '_', 't', 'e', 's'].reverse) = some Manifest.sig_set_iterator := by kernel_rfl
theorem slot_si_next : Slot "set_iterator" "__next__" "set_iterator.__next__" :=
  .of (owner := "set_iterator") (n := "__next__") (by rw [typeLookup_type, builtinLookup_eq_fast]; kernel_rfl) (by decide +kernel) (by decide +kernel) (by decide +kernel)
    (by first | exact .inl (by decide +kernel) | exact .inr (by decide +kernel)) (by rw [isSubtype_type]; kernel_rfl)
theorem entry_si_next : entryFor table "set_iterator.__next__" = some Builtin.«set_iterator.__next__» := entryFor_of_tree (by kernel_rfl)
theorem args_si_next (a : Value) : argsOk "set_iterator.__next__" ⟨[a], []⟩ := by
  unfold argsOk; rw [signature?_of (id := "set_iterator.__next__") (n := ['_', '_', 't', 'x', 'e', 'n', '_', '_']) (o := ['r', 'o', 't', 'a', 'r', 'e', 't', 'i', '_', 't', 'e', 's']) (by kernel_rfl) owner_si]; kernel_rfl
theorem slot_si_iter : Slot "set_iterator" "__iter__" "set_iterator.__iter__" :=
  .of (owner := "set_iterator") (n := "__iter__") (by rw [typeLookup_type, builtinLookup_eq_fast]; kernel_rfl) (by decide +kernel) (by decide +kernel) (by decide +kernel)
    (by first | exact .inl (by decide +kernel) | exact .inr (by decide +kernel)) (by rw [isSubtype_type]; kernel_rfl)
theorem args_si_iter (a : Value) : argsOk "set_iterator.__iter__" ⟨[a], []⟩ := by
  unfold argsOk; rw [signature?_of (id := "set_iterator.__iter__") (n := ['_', '_', 'r', 'e', 't', 'i', '_', '_']) (o := ['r', 'o', 't', 'a', 'r', 'e', 't', 'i', '_', 't', 'e', 's']) (by kernel_rfl) owner_si]; kernel_rfl
theorem entry_si_iter : entryFor table "set_iterator.__iter__" = some Builtin.«dict_keyiterator.__iter__» :=
  entryFor_alias (id' := "dict_keyiterator.__iter__") (by kernel_rfl) (by first | rfl | decide +kernel | (unfold String.splitOn; simp +decide [String.splitOnAux])) (by decide +kernel) (by kernel_rfl)
end SF
section
variable {prog : Program} {w : World} {A : Around} {E : Value → Shared → Prop} {s : Shared}
theorem erase_perm {α : Type} {l : List α} {i : Nat} (h : i < l.length) : (l[i] :: l.eraseIdx i).Perm l := by
  have e : l = l.take i ++ l[i] :: l.drop (i + 1) := by rw [← List.drop_eq_getElem_cons h, List.take_append_drop]
  rw [List.eraseIdx_eq_take_drop_succ]
  exact (List.perm_middle.symm).trans (List.Perm.of_eq e.symm)
theorem wpAny_chooseAny {src : Source} {n : Nat} {Q : Nat → Shared → Prop} (hn : n ≠ 0) (h : ∀ i d, i < n → Q i { s with drawn := d }) : wpAny (model prog w) A (choose src n) Q E s := by
  intro Γ p hΓ
  show Sem.wp (model prog w) Γ (.choose src n .pure) (fun a _ s' => Q a s') (fun e _ s' => E e s') p s
  rw [Sem.wp_choose]
  refine ⟨hn, ?_⟩
  have := h (w.draws src (s.drawn.get src) % n) (s.drawn.bump src) (Nat.mod_lt _ (by lia))
  first
  | exact this
  | simpa using this
theorem wpAny_drawOrder {α : Type} : ∀ (xs : List α) (n : Nat) (s : Shared) (Q : List α → Shared → Prop), n = xs.length → (∀ ys d, ys.Perm xs → Q ys { s with drawn := d }) → wpAny (model prog w) A (drawOrder n xs) Q E s
  | xs, 0, s, Q, hn, h => by
    unfold drawOrder
    have : xs = [] := List.eq_nil_of_length_eq_zero hn.symm
    subst this
    exact wpAny_pure (h [] s.drawn (List.Perm.refl _))
  | [], n + 1, s, Q, hn, h => by cases hn
  | x :: r, n + 1, s, Q, hn, h => by
    unfold drawOrder
    refine wpAny_bind (wpAny_chooseAny (by simp) fun i d hi => ?_)
    have e : (x :: r)[i]? = some ((x :: r)[i]) := List.getElem?_eq_getElem hi
    rw [e]
    dsimp only
    refine wpAny_bind (wpAny_drawOrder ((x :: r).eraseIdx i) n _ _ (by rw [List.length_eraseIdx]; simp only [List.length_cons] at hn hi ⊢; rw [if_pos hi]; lia) fun ys d' hp => wpAny_pure ?_)
    refine h _ d' ?_
    exact (List.Perm.cons _ hp).trans (erase_perm hi)
  termination_by xs => xs.length
  decreasing_by
    rw [List.length_eraseIdx]; simp only [List.length_cons] at hi ⊢; rw [if_pos hi]; lia
theorem pick_go {α : Type} (next : Nat → Nat) : ∀ (fuel k : Nat) (left : List α) (out : Array α), fuel = left.length → (pickOrder.go next fuel k left out).toList.Perm (out.toList ++ left)
  | 0, k, left, out, h => by
    have : left = [] := List.eq_nil_of_length_eq_zero h.symm
    subst this
    unfold pickOrder.go
    simp
  | fuel + 1, k, left, out, h => by
    unfold pickOrder.go
    have hlt : next k % left.length < left.length := Nat.mod_lt _ (by lia)
    rw [List.getElem?_eq_getElem hlt]
    dsimp only
    refine (pick_go next fuel (k + 1) _ _ (by rw [List.length_eraseIdx, if_pos hlt]; lia)).trans ?_
    rw [Array.toList_push, List.append_assoc]
    exact (erase_perm hlt).append_left _
theorem pick_perm {α : Type} (next : Nat → Nat) (xs : Array α) : (pickOrder next xs).toList.Perm xs.toList := by
  unfold pickOrder
  simpa using pick_go next xs.size 0 xs.toList #[] (by simp)
/-- an iterator over a set -/
def SIt (h : Heap) (I a : Addr) (first : Value) (i n ep : Nat) : Prop := ∃ o, h.get? I = some o ∧ o.cls = .type "set_iterator" ∧ o.data = .fields #[first, rawInt i, .ref a, rawInt n, rawInt ep]
theorem SIt.at {h h' : Heap} {I a : Addr} {first : Value} {i n ep : Nat} (x : SIt h I a first i n ep) (k : ∀ o, h.get? I = some o → h'.get? I = some o) : SIt h' I a first i n ep := let ⟨o, e, r⟩ := x; ⟨o, k _ e, r⟩
theorem SIt.typeIs {I a : Addr} {first : Value} {i n ep : Nat} (x : SIt s.heap I a first i n ep) : s.TypeIs (.ref I) "set_iterator" := let ⟨o, e, c, _⟩ := x; ⟨o, e, c⟩
theorem iter_si {I a : Addr} {first : Value} {i n ep : Nat} {Q : Value → Shared → Prop} (hit : SIt s.heap I a first i n ep) (h : Q (.ref I) s) : wpAny (model prog w) A (pyIter (.ref I)) Q E s := by
  refine wpAny_pyIter_slot hit.typeIs SF.slot_si_iter (wpAny_call_entry SF.slot_si_iter hit.typeIs SF.entry_si_iter ?_ (SF.args_si_iter _))
  show wpAny _ _ (ret (.ref I)) _ _ s
  exact wpAny_pure ⟨_, rfl, "set_iterator", _, hit.typeIs, SF.slot_si_next.lookup, h⟩
/-- one field of the iterator turned -/
theorem si_set {h : Heap} {I : Addr} {o : Obj} {vs : Array Value} (ho : h.get? I = some o) (hc : o.cls = .type "set_iterator") (hd : o.data = .fields vs) (i : Nat) (x : Value) :
    ∃ o', (h.update I (Obj.mapFields (·.setIfInBounds i x))).get? I = some o' ∧ o'.cls = .type "set_iterator" ∧ o'.data = .fields (vs.setIfInBounds i x) :=
  ⟨_, Heap.get?_update_self _ ho (Obj.isFreed_of_fields (Obj.data_mapFields hd _)), (Obj.cls_mapFields ..).trans hc, Obj.data_mapFields hd _⟩
end
end RS
end PartS4

section PartS5
open PySem PySem.W PyProof.Rows PySem.Calls
set_option Elab.async false
set_option maxRecDepth 100000
namespace RS
section
variable {prog : Program} {w : World} {A : Around} {E : Value → Shared → Prop} {s : Shared}
theorem sby {Q : Bool → Shared → Prop} (h : Q (byText w) s) : wpAny (model prog w) A setsByText Q E s := by
  unfold setsByText
  exact wpAny_bind (wpAny_askSetting (wpAny_pure h))
/-- how the walk of a set stands -/
def Go (w : World) (h : Heap) (a : Addr) (es : Array (Int × Value)) (ep : Nat) (t : SetTable) (ord : List (Int × Value)) (i : Nat) (first : Value) : Prop :=
  (byText w = true ∧ first = rawInt ((0 : Nat) : Int) ∧ ord = (pickOrder (w.params.setOrder a ep) es).toList) ∨
  (byText w = false ∧ (t.plain = true ∨ es.size ≤ 1) ∧ t.led = true ∧ Rise t.place ∧ ord = es.toList ∧ first = rawInt ((if i = 0 then 0 else t.place.getD (i - 1) 0 + 1 : Nat) : Int)) ∨
  (∃ (T : Addr) (ps : List Nat), first = .ref T ∧ h.IsTuple T (ps.map fun k : Nat => rawInt (k : Int)).toArray ∧ ps.length = ord.length ∧ ∀ k (hk : k < ps.length), es[ps[k]]? = ord[k]?)
end
namespace Sn
abbrev V : Type := (Program) × (World) × (Around) × (Value → Shared → Prop) × (Shared) × (Addr) × (Obj) × (Array (Int × Value)) × (Nat) × (SetTable) × (List (Int × Value)) × (Nat) × (Option (Value × Nat) → Shared → Prop)
def Say (prog : Program) (w : World) (A : Around) (E : Value → Shared → Prop) (s : Shared) (a : Addr) (o : Obj) (es : Array (Int × Value)) (ep : Nat) (t : SetTable) (ord : List (Int × Value)) (i : Nat) (Q : Option (Value × Nat) → Shared → Prop) : Prop := ∀ (sl : Int) (ho : s.heap.get? a = some o) (hd : o.data = .set es ep t) (hf : t.fits es.size = true) (hg : Go w s.heap a es ep t ord i (rawInt sl)) (hi : i ≤ ord.length) (hq : ∀ r, (match ord[i]? with | some e => ∃ nx : Nat, r = some (e.2, nx) ∧ ∀ h', Go w h' a es ep t ord (i + 1) (rawInt (nx : Int)) | none => r = none) → Q r s),
    wpAny (model prog w) A (setNext a sl.toNat i ep) Q E s
theorem ne : Nonempty V := ⟨(default, (Classical.choice neW), {}, (fun _ _ => True), {}, 0, { cls := .none, data := .fields #[] }, #[], 0, (.fresh 0 0 true), [], 0, (fun _ _ => True))⟩
noncomputable def c : V := pick ne fun v => Say v.1 v.2.1 v.2.2.1 v.2.2.2.1 v.2.2.2.2.1 v.2.2.2.2.2.1 v.2.2.2.2.2.2.1 v.2.2.2.2.2.2.2.1 v.2.2.2.2.2.2.2.2.1 v.2.2.2.2.2.2.2.2.2.1 v.2.2.2.2.2.2.2.2.2.2.1 v.2.2.2.2.2.2.2.2.2.2.2.1 v.2.2.2.2.2.2.2.2.2.2.2.2
@[irreducible] noncomputable def prog : Program := c.1
@[irreducible] noncomputable def w : World := c.2.1
@[irreducible] noncomputable def A : Around := c.2.2.1
@[irreducible] noncomputable def E : Value → Shared → Prop := c.2.2.2.1
@[irreducible] noncomputable def s : Shared := c.2.2.2.2.1
@[irreducible] noncomputable def a : Addr := c.2.2.2.2.2.1
@[irreducible] noncomputable def o : Obj := c.2.2.2.2.2.2.1
@[irreducible] noncomputable def es : Array (Int × Value) := c.2.2.2.2.2.2.2.1
@[irreducible] noncomputable def ep : Nat := c.2.2.2.2.2.2.2.2.1
@[irreducible] noncomputable def t : SetTable := c.2.2.2.2.2.2.2.2.2.1
@[irreducible] noncomputable def ord : List (Int × Value) := c.2.2.2.2.2.2.2.2.2.2.1
@[irreducible] noncomputable def i : Nat := c.2.2.2.2.2.2.2.2.2.2.2.1
@[irreducible] noncomputable def Q : Option (Value × Nat) → Shared → Prop := c.2.2.2.2.2.2.2.2.2.2.2.2
theorem spec_c : Say prog w A E s a o es ep t ord i Q := by
  intro sl ho hd hf hg hi hq
  unfold setNext
  refine wpAny_bind (wpAny_setState_of ho hd hf ?_)
  dsimp only
  refine wpAny_bind (sby ?_)
  rcases hg with ⟨g1, g2, g3⟩ | ⟨g1, g2, g3, g4, g5, g6⟩ | ⟨T, ps, g1, _⟩
  · have hsl : sl = ((0 : Nat) : Int) := by injection g2
    subst hsl
    rw [g1]
    simp only [if_true, bne_self_eq_false, Bool.false_eq_true, if_false]
    refine wpAny_bind ?_
    unfold setWalk
    refine wpAny_bind (wpAny_setState_of ho hd hf ?_)
    dsimp only
    refine wpAny_bind (sby ?_)
    rw [g1]
    simp only [if_true]
    refine wpAny_bind (wpAny_askSetting (wpAny_pure ?_))
    refine wpAny_pure (hq _ ?_)
    have e : (pickOrder (w.params.setOrder a ep) es)[i]? = ord[i]? := by rw [g3]; simp
    cases hoi : ord[i]? with
    | none => exact congrArg (Option.map _) (e.trans hoi)
    | some x => exact ⟨0, congrArg (Option.map _) (e.trans hoi), fun h' => .inl ⟨g1, rfl, g3⟩⟩
  · have hsl : sl = ((if i = 0 then 0 else t.place.getD (i - 1) 0 + 1 : Nat) : Int) := by injection g6
    subst hsl
    rw [g1]
    simp only [Bool.false_eq_true, if_false]
    have hps : t.place.size = es.size := by
      simp only [SetTable.fits, Bool.and_eq_true, beq_iff_eq] at hf
      exact hf.1
    have hdr : (!t.plain && decide (es.size > 1)) = false := by
      rcases g2 with e | e
      · rw [e]; rfl
      · have : decide (es.size > 1) = false := by simpa using e
        rw [this, Bool.and_false]
    have h2 := below_spec g4 (if i = 0 then 0 else t.place.getD (i - 1) 0 + 1)
    have hbel : SetTable.below t.place (if i = 0 then 0 else t.place.getD (i - 1) 0 + 1) = i := by
      obtain ⟨b1, b2, b3⟩ := h2
      have hi' : i ≤ t.place.size := by rw [hps]; rw [g5] at hi; simpa using hi
      rcases Nat.lt_trichotomy (SetTable.below t.place (if i = 0 then 0 else t.place.getD (i - 1) 0 + 1)) i with q | q | q
      · have c1 := b3 (i - 1) (by omega) (by omega)
        rw [if_neg (by omega), getD_in (by omega : i - 1 < t.place.size)] at c1
        omega
      · exact q
      · have c1 := b2 i (by omega) q
        by_cases e : i = 0
        · rw [if_pos e] at c1; omega
        · rw [if_neg e, getD_in (by omega : i - 1 < t.place.size)] at c1
          have := g4.lt (a := i - 1) (b := i) (by omega) (by omega)
          omega
    refine wpAny_ite_split (fun h => absurd h ?_) (fun _ => ?_)
    · show ¬ ((!t.plain && decide (es.size > 1)) = true)
      rw [hdr]; decide
    refine wpAny_bind ?_
    show wpAny _ _ (if (!t.led && !es.isEmpty) = true then unsupported "set:maker-not-led" else pure ()) _ _ _
    rw [g3]
    simp only [Bool.not_true, Bool.false_and, Bool.false_eq_true, if_false]
    refine wpAny_pure ?_
    rw [Int.toNat_natCast, hbel]
    refine wpAny_pure (hq _ ?_)
    have e : es[i]? = ord[i]? := by rw [g5]; simp
    by_cases hlt : i < es.size
    · have hlt' : i < t.place.size := by omega
      rw [← e, Array.getElem?_eq_getElem hlt, Array.getElem?_eq_getElem hlt']
      refine ⟨_, rfl, fun h' => .inr (.inl ⟨g1, g2, g3, g4, g5, ?_⟩)⟩
      rw [if_neg (Nat.succ_ne_zero i), Nat.add_sub_cancel, getD_in hlt']
    · rw [← e, Array.getElem?_eq_none (by omega)]
  · exact absurd g1 (by intro e; cases e)
theorem all : Say c.1 c.2.1 c.2.2.1 c.2.2.2.1 c.2.2.2.2.1 c.2.2.2.2.2.1 c.2.2.2.2.2.2.1 c.2.2.2.2.2.2.2.1 c.2.2.2.2.2.2.2.2.1 c.2.2.2.2.2.2.2.2.2.1 c.2.2.2.2.2.2.2.2.2.2.1 c.2.2.2.2.2.2.2.2.2.2.2.1 c.2.2.2.2.2.2.2.2.2.2.2.2 := by
  have h := spec_c
  unfold prog w A E s a o es ep t ord i Q at h
  exact h
end Sn
theorem setNext_go {prog : Program} {w : World} {A : Around} {E : Value → Shared → Prop} {s : Shared} {a : Addr} {o : Obj} {es : Array (Int × Value)} {ep : Nat} {t : SetTable} {ord : List (Int × Value)} {i : Nat} {sl : Int} {Q : Option (Value × Nat) → Shared → Prop}
    (ho : s.heap.get? a = some o) (hd : o.data = .set es ep t) (hf : t.fits es.size = true) (hg : Go w s.heap a es ep t ord i (rawInt sl)) (hi : i ≤ ord.length)
    (hq : ∀ r, (match ord[i]? with | some e => ∃ nx : Nat, r = some (e.2, nx) ∧ ∀ h', Go w h' a es ep t ord (i + 1) (rawInt (nx : Int)) | none => r = none) → Q r s) :
    wpAny (model prog w) A (setNext a sl.toNat i ep) Q E s := by
  exact of_pick Sn.ne (fun v => Sn.Say v.1 v.2.1 v.2.2.1 v.2.2.2.1 v.2.2.2.2.1 v.2.2.2.2.2.1 v.2.2.2.2.2.2.1 v.2.2.2.2.2.2.2.1 v.2.2.2.2.2.2.2.2.1 v.2.2.2.2.2.2.2.2.2.1 v.2.2.2.2.2.2.2.2.2.2.1 v.2.2.2.2.2.2.2.2.2.2.2.1 v.2.2.2.2.2.2.2.2.2.2.2.2) Sn.all (prog, w, A, E, s, a, o, es, ep, t, ord, i, Q) sl ho hd hf hg hi hq
section
variable {prog : Program} {w : World} {A : Around} {E : Value → Shared → Prop} {s : Shared}
end
end RS
end PartS5

section PartS6
open PySem PySem.W PyProof.Rows PySem.Calls
set_option Elab.async false
set_option maxRecDepth 100000
namespace RS
section
variable {prog : Program} {w : World} {A : Around} {E : Value → Shared → Prop} {s : Shared}
/-- the end of a walk, as pyNext sees it -/
theorem stop_end {R : Fin → Shared → Prop} {Q : Option Value → Shared → Prop} (hh : A.handled = none) (hQ : ∀ h' : Heap, (∀ b o, s.heap.get? b = some o → h'.get? b = some o) → Q none { s with heap := h' }) :
    wpAny (model prog w) A.in1 (newExc (.type "StopIteration") [] >>= raiseNew) R (fun e s' => wpAny (model prog w) A (do let b ← isInstance e (.type "StopIteration"); if b = true then pure none else throw e) Q E s') s := by
  refine wpAny_bind ?_
  simp only [newExc, newTuple]
  refine wpAny_bind (wpAny_newObj_type ?_ (by size_fits))
  refine wpAny_bind (m := firstArgMember _ _) (wpAny_of_eq (a := Value.none) (by first | rfl | (simp only [firstArgMember]; rfl)) ?_)
  refine wpAny_newObj_type ?_ (by size_fits)
  simp only [raiseNew]
  refine wpAny_bind (wpAny_handled ?_)
  first | rw [show A.in1.handled = none from hh] | rw [hh]
  refine wpAny_bind (wpAny_pure (wpAny_throw ?_))
  refine wpAny_bind (wpAny_isInstance (T := "StopIteration") (b := true) ⟨_, Heap.get?_push_size _ rfl, rfl⟩ isSubtype_stop ?_)
  exact wpAny_pure (hQ _ fun b o e => Heap.get?_push_of_some _ (Heap.get?_push_of_some _ e))
end
namespace Si
abbrev V : Type := (Program) × (World) × (Around) × (Value → Shared → Prop) × (Shared) × (Addr) × (Addr) × (Obj) × (Array (Int × Value)) × (Nat) × (Nat) × (SetTable) × (List (Int × Value)) × (Nat) × (Option Value → Shared → Prop)
def Say (prog : Program) (w : World) (A : Around) (E : Value → Shared → Prop) (s : Shared) (I : Addr) (a : Addr) (o : Obj) (es : Array (Int × Value)) (ep : Nat) (n : Nat) (t : SetTable) (ord : List (Int × Value)) (i : Nat) (Q : Option Value → Shared → Prop) : Prop := ∀ (first : Value) (hh : A.handled = none) (hIa : a ≠ I) (hit : SIt s.heap I a first i n ep) (hn : es.size = n) (ho : s.heap.get? a = some o) (hd : o.data = .set es ep t) (hf : t.fits es.size = true) (hg : Go w s.heap a es ep t ord i first) (hi : i ≤ ord.length) (hT : ∀ T, first = .ref T → T ≠ I) (item : ∀ e h' first', ord[i]? = some e → SIt h' I a first' (i + 1) n ep → Go w h' a es ep t ord (i + 1) first' → (∀ T, first' = .ref T → first = .ref T) → (∀ b o, b ≠ I → s.heap.get? b = some o → h'.get? b = some o) → Q (some e.2) { s with heap := h' }) (done : ∀ h', ord[i]? = none → (∀ b o, b ≠ I → s.heap.get? b = some o → h'.get? b = some o) → Q none { s with heap := h' }),
    wpAny (model prog w) A (pyNext (.ref I)) Q E s
theorem ne : Nonempty V := ⟨(default, (Classical.choice neW), {}, (fun _ _ => True), {}, 0, 0, { cls := .none, data := .fields #[] }, #[], 0, 0, (.fresh 0 0 true), [], 0, (fun _ _ => True))⟩
noncomputable def c : V := pick ne fun v => Say v.1 v.2.1 v.2.2.1 v.2.2.2.1 v.2.2.2.2.1 v.2.2.2.2.2.1 v.2.2.2.2.2.2.1 v.2.2.2.2.2.2.2.1 v.2.2.2.2.2.2.2.2.1 v.2.2.2.2.2.2.2.2.2.1 v.2.2.2.2.2.2.2.2.2.2.1 v.2.2.2.2.2.2.2.2.2.2.2.1 v.2.2.2.2.2.2.2.2.2.2.2.2.1 v.2.2.2.2.2.2.2.2.2.2.2.2.2.1 v.2.2.2.2.2.2.2.2.2.2.2.2.2.2
@[irreducible] noncomputable def prog : Program := c.1
@[irreducible] noncomputable def w : World := c.2.1
@[irreducible] noncomputable def A : Around := c.2.2.1
@[irreducible] noncomputable def E : Value → Shared → Prop := c.2.2.2.1
@[irreducible] noncomputable def s : Shared := c.2.2.2.2.1
@[irreducible] noncomputable def I : Addr := c.2.2.2.2.2.1
@[irreducible] noncomputable def a : Addr := c.2.2.2.2.2.2.1
@[irreducible] noncomputable def o : Obj := c.2.2.2.2.2.2.2.1
@[irreducible] noncomputable def es : Array (Int × Value) := c.2.2.2.2.2.2.2.2.1
@[irreducible] noncomputable def ep : Nat := c.2.2.2.2.2.2.2.2.2.1
@[irreducible] noncomputable def n : Nat := c.2.2.2.2.2.2.2.2.2.2.1
@[irreducible] noncomputable def t : SetTable := c.2.2.2.2.2.2.2.2.2.2.2.1
@[irreducible] noncomputable def ord : List (Int × Value) := c.2.2.2.2.2.2.2.2.2.2.2.2.1
@[irreducible] noncomputable def i : Nat := c.2.2.2.2.2.2.2.2.2.2.2.2.2.1
@[irreducible] noncomputable def Q : Option Value → Shared → Prop := c.2.2.2.2.2.2.2.2.2.2.2.2.2.2
theorem spec_c : Say prog w A E s I a o es ep n t ord i Q := by
  intro first hh hIa hit hn ho hd hf hg hi hT item done
  obtain ⟨oI, hoI, hcI, hdI⟩ := id hit
  unfold pyNext
  refine wpAny_bind (wpAny_attempt (wpAny_callSpecial?_slot (name := Str.ofString "__next__") hit.typeIs SF.slot_si_next
    (wpAny_call_entry SF.slot_si_next hit.typeIs SF.entry_si_next ?_ (SF.args_si_next _))))
  unfold Builtin.«set_iterator.__next__»
  refine wpAny_bind (wpAny_of_eq (a := (Value.ref I, [])) rfl ?_)
  try dsimp only
  refine wpAny_bind (wpAny_fieldsOf hoI hdI ?_)
  dsimp only
  have e1 : ((es.size : Int) != (n : Int)) = false := by rw [hn]; simp
  refine wpAny_bind (wpAny_setEntries_of ho hd hf ?_)
  refine wpAny_ite_split (fun q => absurd q (by rw [e1]; decide)) (fun _ => ?_)
  by_cases hint : ∃ sl, first = rawInt sl
  · obtain ⟨sl, rfl⟩ := hint
    show wpAny _ _ (setNext a sl.toNat ((i : Int)).toNat ((ep : Int)).toNat >>= _) _ _ _
    rw [Int.toNat_natCast, Int.toNat_natCast]
    refine wpAny_bind (setNext_go ho hd hf hg hi fun r hr => ?_)
    cases hoi : ord[i]? with
    | none =>
      rw [hoi] at hr
      subst hr
      dsimp only
      refine wpAny_bind (wpAny_setField hoI hdI (by simp) ?_)
      have sb := Heap.SameBut.update s.heap I (Obj.mapFields (·.setIfInBounds 2 Value.none))
      exact stop_end hh fun h' k => done h' hoi fun b o' hb q => k b o' (sb.extBut b o' hb q)
    | some e =>
      rw [hoi] at hr
      obtain ⟨nx, rfl, hgo⟩ := hr
      dsimp only
      obtain ⟨o1, g1, c1, d1⟩ := si_set hoI hcI hdI 0 (rawInt (nx : Int))
      refine wpAny_bind (wpAny_setField hoI hdI (by simp) ?_)
      obtain ⟨o2, g2, c2, d2⟩ := si_set g1 c1 d1 1 (rawInt ((i : Int) + 1))
      refine wpAny_bind (wpAny_setField g1 d1 (by simp) ?_)
      have sb := (Heap.SameBut.update s.heap I (Obj.mapFields (·.setIfInBounds 0 (rawInt (nx : Int))))).trans (Heap.SameBut.update _ I (Obj.mapFields (·.setIfInBounds 1 (rawInt ((i : Int) + 1)))))
      refine wpAny_pure ⟨_, rfl, wpAny_pure ?_⟩
      refine item e _ (rawInt (nx : Int)) hoi ⟨o2, g2, c2, by rw [d2]; simp⟩ (hgo _) (fun T q => by cases q) fun b o hb q => sb.extBut b o hb q
  · rcases hg with ⟨g1, g2, g3⟩ | ⟨g1, g2, g3, g4, g5, g6⟩ | ⟨T, ps, rfl, g2, g3, g4⟩
    · exact absurd ⟨_, g2⟩ hint
    · exact absurd ⟨_, g6⟩ hint
    obtain ⟨oT, hoT, hcT, nT, hdT⟩ := id g2
    show wpAny _ _ (seqItems? (.ref T) >>= _) _ _ _
    refine wpAny_bind (wpAny_seqItems hoT hdT ?_)
    dsimp only
    rw [Int.toNat_natCast]
    by_cases hlt : i < ps.length
    · have e2 : (ps.map fun k : Nat => rawInt (k : Int)).toArray[i]? = some (rawInt ((ps[i] : Nat) : Int)) := by simp [hlt]
      rw [e2]
      dsimp only [rawInt]
      have e3 := g4 i hlt
      have hlo : i < ord.length := by lia
      rw [List.getElem?_eq_getElem hlo] at e3
      have e4 : es[ps[i]]? = some (ord[i].1, ord[i].2) := e3
      unfold setNextDrawn
      refine wpAny_bind (wpAny_bind (wpAny_setState_of ho hd hf ?_))
      dsimp only
      rw [Int.toNat_natCast, Int.toNat_natCast]
      refine wpAny_ite_split (fun q => absurd q (by simp)) (fun _ => ?_)
      rw [e4]
      dsimp only
      refine wpAny_pure ?_
      refine wpAny_bind (wpAny_setField hoI hdI (by simp) ?_)
      obtain ⟨o1, k1, c1, d1⟩ := si_set hoI hcI hdI 1 (rawInt ((i : Int) + 1))
      have sb := Heap.SameBut.update s.heap I (Obj.mapFields (·.setIfInBounds 1 (rawInt ((i : Int) + 1))))
      refine wpAny_pure ⟨_, rfl, wpAny_pure ?_⟩
      refine item ord[i] _ (.ref T) (List.getElem?_eq_getElem hlo) ⟨o1, k1, c1, by rw [d1]; simp⟩ (.inr (.inr ⟨T, ps, rfl, g2.at fun o' q => sb.extBut T o' (hT T rfl) q, g3, g4⟩)) (fun T q => q) fun b o' hb q => sb.extBut b o' hb q
    · have e2 : (ps.map fun k : Nat => rawInt (k : Int)).toArray[i]? = none := by simp; lia
      rw [e2]
      dsimp only
      obtain ⟨o1, k1, c1, d1⟩ := si_set hoI hcI hdI 0 (rawInt 0)
      refine wpAny_bind (wpAny_setField hoI hdI (by simp) ?_)
      refine wpAny_bind (wpAny_setField k1 d1 (by simp) ?_)
      have sb := (Heap.SameBut.update s.heap I (Obj.mapFields (·.setIfInBounds 0 (rawInt 0)))).trans (Heap.SameBut.update _ I (Obj.mapFields (·.setIfInBounds 2 Value.none)))
      exact stop_end hh fun h' k => done h' (List.getElem?_eq_none (by lia)) fun b o' hb q => k b o' (sb.extBut b o' hb q)
theorem all : Say c.1 c.2.1 c.2.2.1 c.2.2.2.1 c.2.2.2.2.1 c.2.2.2.2.2.1 c.2.2.2.2.2.2.1 c.2.2.2.2.2.2.2.1 c.2.2.2.2.2.2.2.2.1 c.2.2.2.2.2.2.2.2.2.1 c.2.2.2.2.2.2.2.2.2.2.1 c.2.2.2.2.2.2.2.2.2.2.2.1 c.2.2.2.2.2.2.2.2.2.2.2.2.1 c.2.2.2.2.2.2.2.2.2.2.2.2.2.1 c.2.2.2.2.2.2.2.2.2.2.2.2.2.2 := by
  have h := spec_c
  unfold prog w A E s I a o es ep n t ord i Q at h
  exact h
end Si
theorem si_next {prog : Program} {w : World} {A : Around} {E : Value → Shared → Prop} {s : Shared} {I a : Addr} {o : Obj} {es : Array (Int × Value)} {ep n : Nat} {t : SetTable} {ord : List (Int × Value)} {i : Nat} {first : Value} {Q : Option Value → Shared → Prop} (hh : A.handled = none) (hIa : a ≠ I)
    (hit : SIt s.heap I a first i n ep) (hn : es.size = n) (ho : s.heap.get? a = some o) (hd : o.data = .set es ep t) (hf : t.fits es.size = true) (hg : Go w s.heap a es ep t ord i first) (hi : i ≤ ord.length) (hT : ∀ T, first = .ref T → T ≠ I)
    (item : ∀ e h' first', ord[i]? = some e → SIt h' I a first' (i + 1) n ep → Go w h' a es ep t ord (i + 1) first' → (∀ T, first' = .ref T → first = .ref T) → (∀ b o, b ≠ I → s.heap.get? b = some o → h'.get? b = some o) → Q (some e.2) { s with heap := h' })
    (done : ∀ h', ord[i]? = none → (∀ b o, b ≠ I → s.heap.get? b = some o → h'.get? b = some o) → Q none { s with heap := h' }) :
    wpAny (model prog w) A (pyNext (.ref I)) Q E s := by
  exact of_pick Si.ne (fun v => Si.Say v.1 v.2.1 v.2.2.1 v.2.2.2.1 v.2.2.2.2.1 v.2.2.2.2.2.1 v.2.2.2.2.2.2.1 v.2.2.2.2.2.2.2.1 v.2.2.2.2.2.2.2.2.1 v.2.2.2.2.2.2.2.2.2.1 v.2.2.2.2.2.2.2.2.2.2.1 v.2.2.2.2.2.2.2.2.2.2.2.1 v.2.2.2.2.2.2.2.2.2.2.2.2.1 v.2.2.2.2.2.2.2.2.2.2.2.2.2.1 v.2.2.2.2.2.2.2.2.2.2.2.2.2.2) Si.all (prog, w, A, E, s, I, a, o, es, ep, n, t, ord, i, Q) first hh hIa hit hn ho hd hf hg hi hT item done
section
variable {prog : Program} {w : World} {A : Around} {E : Value → Shared → Prop} {s : Shared}
end
end RS
end PartS6

section PartS7
open PySem PySem.W PyProof.Rows PySem.Calls
set_option Elab.async false
set_option maxRecDepth 100000
namespace RS
section
variable {prog : Program} {w : World} {A : Around} {E : Value → Shared → Prop} {s : Shared}
inductive SWalk (w : World) (I a T0 : Addr) (o : Obj) (es : Array (Int × Value)) (ep : Nat) (t : SetTable) (ord : List (Int × Value)) (i : Nat) (h : Heap) : Prop
  | intro (first : Value) (q0_ : SIt h I a first i es.size ep) (q1_ : h.get? a = some o) (q2_ : Go w h a es ep t ord i first) (q3_ : i ≤ ord.length) (q4_ : ∀ T, first = .ref T → T = T0)
theorem walks_set {I a T0 : Addr} {o : Obj} {es : Array (Int × Value)} {ep : Nat} {t : SetTable} {ord : List (Int × Value)} (hh : A.handled = none) (hIa : a ≠ I) (hTI : T0 ≠ I) (hd : o.data = .set es ep t) (hf : t.fits es.size = true) :
    Walks prog w A I [I, a, T0] [I] ord.length (fun i v => ∃ e, ord[i]? = some e ∧ v = e.2) (SWalk w I a T0 o es ep t ord) where
  sub := fun b hb => by simp at hb; simp [hb]
  frame := fun i h h' st k => by
    obtain ⟨first, x1, x2, x3, x4, x5⟩ := st
    refine ⟨first, x1.at fun o' e => k I (by simp) o' e, k a (by simp) _ x2, ?_, x4, x5⟩
    rcases x3 with g | g | ⟨T, ps, rfl, g2, g3, g4⟩
    · exact .inl g
    · exact .inr (.inl g)
    · have := x5 T rfl
      subst this
      exact .inr (.inr ⟨T, ps, rfl, g2.at fun o' e => k T (by simp) o' e, g3, g4⟩)
  item := fun i s Q E hi st hQ => by
    obtain ⟨first, x1, x2, x3, x4, x5⟩ := st
    refine si_next hh hIa x1 rfl x2 hd hf x3 x4 (fun T e => by rw [x5 T e]; exact hTI) (fun e h' first' e1 e2 e3 e4 k => ?_) (fun h' e1 k => ?_)
    · refine hQ e.2 h' s.toks ⟨e, e1, rfl⟩ ⟨first', e2, k a o hIa x2, e3, hi, fun T q => ?_⟩ fun b o' hb q => k b o' (by simpa using hb) q
      exact x5 T (e4 T q)
    · rw [List.getElem?_eq_getElem hi] at e1; cases e1
  done := fun s Q E st hQ => by
    obtain ⟨first, x1, x2, x3, x4, x5⟩ := st
    refine si_next hh hIa x1 rfl x2 hd hf x3 x4 (fun T e => by rw [x5 T e]; exact hTI) (fun e h' first' e1 e2 e3 e4 k => ?_) (fun h' e1 k => ?_)
    · rw [List.getElem?_eq_none (Nat.le_refl _)] at e1; cases e1
    · exact hQ h' s.toks fun b o' hb q => k b o' (by simpa using hb) q
  self := fun i s Q E st hQ => by
    obtain ⟨first, x1, _⟩ := st
    exact iter_si x1 hQ
end
end RS
end PartS7

section PartS8
open PySem PySem.W PyProof.Rows PySem.Calls
set_option Elab.async false
set_option maxRecDepth 100000
namespace RS
section
variable {prog : Program} {w : World} {A : Around} {E : Value → Shared → Prop} {s : Shared}
theorem ints_of_elems : ∀ (l : List (Int × Value)), ElemsOf (intKind prog w) l → IntsAre (l.map (·.2)) (l.map fun e => numOf e.2)
  | [], _ => .nil
  | e :: r, h => by
    obtain ⟨⟨k, hk, _⟩, _⟩ := h e (.head _)
    obtain ⟨t, ht⟩ := Value.isInt_shape (show Value.isInt k e.2 = true from hk)
    rw [List.map_cons, List.map_cons, ht]
    exact .cons k t (ints_of_elems r fun x hx => h x (.tail _ hx))
/-- what iter(set) hands on -/
inductive SOn (prog : Program) (w : World) (s : Shared) (a : Addr) (ms : List Int) (I : Addr) (s' : Shared) : Prop
  | intro (T0 : Addr) (o : Obj) (es : Array (Int × Value)) (ep : Nat) (t : SetTable) (ord : List (Int × Value)) (h' : Heap) (d : Drawn) (q0_ : s' = { s with heap := h', drawn := d }) (q1_ : (∀ b o, s.heap.get? b = some o → h'.get? b = some o)) (q2_ : s.heap.get? I = none) (q3_ : (T0 = a ∨ s.heap.get? T0 = none)) (q4_ : T0 ≠ I) (q5_ : I < h'.objs.size) (q6_ : T0 < h'.objs.size) (q7_ : o.data = .set es ep t) (q8_ : t.fits es.size = true) (q9_ : SWalk w I a T0 o es ep t ord 0 h') (q10_ : (∃ ns, IntsAre (ord.map (·.2)) ns ∧ ns.Perm ms)) (q11_ : es.size < scanBound) (q12_ : ord.length = es.size)
end
namespace Is
abbrev V : Type := (Program) × (World) × (Around) × (Value → Shared → Prop) × (Shared) × (Addr) × (List Int) × (Value → Shared → Prop)
def Say (prog : Program) (w : World) (A : Around) (E : Value → Shared → Prop) (s : Shared) (a : Addr) (ms : List Int) (Q : Value → Shared → Prop) : Prop := ∀ (hS : SetI prog w s.heap a ms (!byText w)) (h : ∀ I s', SOn prog w s a ms I s' → Q (.ref I) s'),
    wpAny (model prog w) A (pyIter (.ref a)) Q E s
theorem ne : Nonempty V := ⟨(default, (Classical.choice neW), {}, (fun _ _ => True), {}, 0, [], (fun _ _ => True))⟩
noncomputable def c : V := pick ne fun v => Say v.1 v.2.1 v.2.2.1 v.2.2.2.1 v.2.2.2.2.1 v.2.2.2.2.2.1 v.2.2.2.2.2.2.1 v.2.2.2.2.2.2.2
@[irreducible] noncomputable def prog : Program := c.1
@[irreducible] noncomputable def w : World := c.2.1
@[irreducible] noncomputable def A : Around := c.2.2.1
@[irreducible] noncomputable def E : Value → Shared → Prop := c.2.2.2.1
@[irreducible] noncomputable def s : Shared := c.2.2.2.2.1
@[irreducible] noncomputable def a : Addr := c.2.2.2.2.2.1
@[irreducible] noncomputable def ms : List Int := c.2.2.2.2.2.2.1
@[irreducible] noncomputable def Q : Value → Shared → Prop := c.2.2.2.2.2.2.2
theorem spec_c : Say prog w A E s a ms Q := by
  intro hS h
  obtain ⟨o, es, ep, t, ho, hex, hd, hel, hms, hb, hf, ht, hled⟩ := hS
  have hT : s.TypeIs (.ref a) "set" := ⟨o, ho, hex.1⟩
  refine wpAny_pyIter_slot hT F.slot_set_iter (wpAny_call_entry F.slot_set_iter hT SF.entry_set_iter ?_ (F.args_set_iter_1 _))
  unfold Builtin.«frozenset.__iter__»
  refine wpAny_bind (wpAny_of_eq (a := a) rfl ?_)
  refine wpAny_bind (m := Builtin.Frozenset.sizeOf a) ?_
  unfold Builtin.Frozenset.sizeOf
  refine wpAny_bind (wpAny_setEntries_of ho hd hf (wpAny_pure ?_))
  refine wpAny_bind (m := setDrawn a) ?_
  unfold setDrawn
  refine wpAny_bind (wpAny_setState_of ho hd hf ?_)
  dsimp only
  refine wpAny_bind (sby (wpAny_pure ?_))
  have hfin : ∀ (ord : List (Int × Value)), ord.Perm es.toList → ∃ ns, IntsAre (ord.map (·.2)) ns ∧ ns.Perm ms := fun ord hp => ⟨_, ints_of_elems (prog := prog) (w := w) ord (hel.perm hp), (hp.map _).trans hms⟩
  have hps : t.place.size = es.size := by
    simp only [SetTable.fits, Bool.and_eq_true, beq_iff_eq] at hf
    exact hf.1
  have hlt : a < s.heap.objs.size := Heap.lt_size ho
  have made : ∀ (first : Value) (ord : List (Int × Value)) (T0 : Addr) (h1 : Heap) (d : Drawn), (∀ b o, s.heap.get? b = some o → h1.get? b = some o) → Go w h1 a es ep t ord 0 first → (∀ T, first = .ref T → T = T0) → ord.Perm es.toList → (T0 = a ∨ s.heap.get? T0 = none) → T0 < h1.objs.size → s.heap.objs.size ≤ h1.objs.size →
      wpAny (model prog w) A.in1 (do ret (← newFields "set_iterator" [first, rawInt 0, .ref a, rawInt (es.size : Int), rawInt ((← setEpoch a : Nat) : Int)]))
        (fun fin s' => ∃ v, fin = Fin.done (Flow.ret v) ∧ ∃ T' r, s'.TypeIs v T' ∧ typeLookup (.type T') "__next__" = pure (some r) ∧ Q v s') E { s with heap := h1, drawn := d } := by
    intro first ord T0 h1 d k1 hg hTT hp hT0 hT1 hsz
    refine wpAny_bind (wpAny_setEpoch_of (k1 a o ho) hd hf ?_)
    simp only [newFields]
    refine wpAny_bind (wpAny_newObj_type ?_ (by size_fits))
    have k2 : ∀ (x : Obj) b o, h1.get? b = some o → (h1.push x).get? b = some o := fun x b o e => Heap.get?_push_of_some _ e
    refine wpAny_pure ⟨_, rfl, "set_iterator", _, ⟨_, Heap.get?_push_size _ rfl, rfl⟩, SF.slot_si_next.lookup, h h1.objs.size _ ?_⟩
    refine ⟨T0, o, es, ep, t, ord, _, d, rfl, fun b o e => k2 _ b o (k1 b o e), Heap.get?_none_of_le hsz, hT0, Nat.ne_of_lt hT1, by rw [Heap.size_push]; exact Nat.lt_succ_self _, by rw [Heap.size_push]; exact Nat.lt_succ_of_lt hT1, hd, hf,
      ⟨first, ⟨_, Heap.get?_push_size _ rfl, rfl, rfl⟩, k2 _ _ _ (k1 a o ho), ?_, Nat.zero_le _, hTT⟩, hfin ord hp, hb, by rw [← Array.length_toList]; exact hp.length_eq⟩
    rcases hg with g | g | ⟨T, ps, rfl, g2, g3, g4⟩
    · exact .inl g
    · exact .inr (.inl g)
    · exact .inr (.inr ⟨T, ps, rfl, g2.at fun o' e => k2 _ T o' e, g3, g4⟩)
  cases hbt : byText w with
  | true =>
    simp only [Bool.not_true, Bool.false_and, Bool.false_eq_true, if_false]
    refine wpAny_bind (wpAny_pure ?_)
    exact made _ (pickOrder (w.params.setOrder a ep) es).toList a s.heap s.drawn (fun _ _ e => e) (.inl ⟨hbt, rfl, rfl⟩) (fun T e => by cases e) (pick_perm _ _) (.inl rfl) hlt (Nat.le_refl _)
  | false =>
    simp only [Bool.not_false, Bool.true_and]
    by_cases hdr : (!t.plain && decide (es.size > 1)) = true
    · refine wpAny_ite_split (fun _ => ?_) (fun q => absurd hdr q)
      refine wpAny_bind (wpAny_drawOrder (List.range es.size) es.size s _ (by simp) fun ps d hp => ?_)
      refine wpAny_bind (wpAny_newTuple ?_ (by rw [List.length_map, hp.length_eq, List.length_range]; exact fits_of_scanBound hb))
      refine made _ (ps.filterMap (es[·]?)) s.heap.objs.size _ d (fun b o e => Heap.get?_push_of_some _ e) ?_ (fun T e => by cases e; rfl) ?_ (.inr (Heap.get?_none_of_le (Nat.le_refl _))) (by rw [Heap.size_push]; exact Nat.lt_succ_self _) (by rw [Heap.size_push]; exact Nat.le_succ _)
      · have hin : ∀ k ∈ ps, k < es.size := fun k hk => by have := hp.mem_iff.mp hk; simpa using this
        have hmap : ∀ (l : List Nat), (∀ k ∈ l, k < es.size) → (l.filterMap (es[·]?)).length = l.length ∧ ∀ k (hk : k < l.length), es[l[k]]? = (l.filterMap (es[·]?))[k]? := by
          intro l
          induction l with
          | nil => intro _; exact ⟨rfl, fun k hk => absurd hk (Nat.not_lt_zero _)⟩
          | cons x r ih =>
            intro hl
            have e := Array.getElem?_eq_getElem (hl x (.head _))
            obtain ⟨i1, i2⟩ := ih fun k hk => hl k (.tail _ hk)
            rw [List.filterMap_cons, e]
            refine ⟨by simp [i1], fun k hk => ?_⟩
            cases k with
            | zero => simpa using e
            | succ k => simpa using i2 k (by simpa using hk)
        obtain ⟨m1, m2⟩ := hmap ps hin
        exact .inr (.inr ⟨_, ps, rfl, ⟨_, Heap.get?_push_size _ rfl, rfl, 0, rfl⟩, m1.symm, m2⟩)
      · refine (hp.filterMap _).trans ?_
        rw [filterMap_getElem?_range]
    · refine wpAny_ite_split (fun q => absurd q hdr) (fun _ => ?_)
      refine wpAny_bind (wpAny_pure ?_)
      have hpl : t.plain = true ∨ es.size ≤ 1 := by
        cases q : t.plain with
        | true => exact .inl rfl
        | false =>
          right
          rw [q] at hdr
          simp at hdr
          exact hdr
      have hrise : Rise t.place := by
        rcases ht with q | q
        · rcases hpl with e | e
          · rw [q] at e; cases e
          · unfold Rise
            have : t.place.toList.length ≤ 1 := by rw [Array.length_toList]; lia
            match t.place.toList, this with
            | [], _ => exact .nil
            | [x], _ => exact List.pairwise_singleton _ _
        · exact q.1
      refine made _ es.toList a s.heap s.drawn (fun _ _ e => e) (.inr (.inl ⟨hbt, hpl, ?_, hrise, rfl, rfl⟩)) (fun T e => by cases e) (List.Perm.refl _) (.inl rfl) hlt (Nat.le_refl _)
      rw [hled, hbt]; rfl
theorem all : Say c.1 c.2.1 c.2.2.1 c.2.2.2.1 c.2.2.2.2.1 c.2.2.2.2.2.1 c.2.2.2.2.2.2.1 c.2.2.2.2.2.2.2 := by
  have h := spec_c
  unfold prog w A E s a ms Q at h
  exact h
end Is
theorem iter_set {prog : Program} {w : World} {A : Around} {E : Value → Shared → Prop} {s : Shared} {a : Addr} {ms : List Int} {Q : Value → Shared → Prop} (hS : SetI prog w s.heap a ms (!byText w)) (h : ∀ I s', SOn prog w s a ms I s' → Q (.ref I) s') : wpAny (model prog w) A (pyIter (.ref a)) Q E s := by
  exact of_pick Is.ne (fun v => Is.Say v.1 v.2.1 v.2.2.1 v.2.2.2.1 v.2.2.2.2.1 v.2.2.2.2.2.1 v.2.2.2.2.2.2.1 v.2.2.2.2.2.2.2) Is.all (prog, w, A, E, s, a, ms, Q) hS h
section
variable {prog : Program} {w : World} {A : Around} {E : Value → Shared → Prop} {s : Shared}
end
end RS
end PartS8

section PartS9
open PySem PySem.W PyProof.Rows PySem.Calls
set_option Elab.async false
set_option maxRecDepth 100000
namespace RS
section
variable {prog : Program} {w : World} {A : Around} {E : Value → Shared → Prop} {s : Shared}
theorem hint_set {a : Addr} {o : Obj} {es : Array (Int × Value)} {ep : Nat} {t : SetTable} {Q : Bool → Shared → Prop} (ho : s.heap.get? a = some o) (hex : o.ExactSet) (hd : o.data = .set es ep t) (hf : t.fits es.size = true) (hb : es.size < scanBound)
    (h : ∀ b tk, Q b { s with toks := tk }) : wpAny (model prog w) A (Builtin.List.listLengthHint (.ref a)) Q E s := by
  have hT : s.TypeIs (.ref a) "set" := ⟨o, ho, hex.1⟩
  unfold Builtin.List.listLengthHint
  refine wpAny_bind (wpAny_specialOf hT F.slot_set_len.lookup ?_)
  generalize hid : ("set.__len__" : String) = id0
  wp_delta
  rw [show splitId id0 = some ("set", "__len__") from by subst hid; decide +kernel]
  subst hid
  refine wpAny_bind (wpAny_isInstance (T := "set") (b := true) hT sub_set_self ?_)
  refine wpAny_ite_split (fun q => absurd q (by decide)) (fun _ => ?_)
  refine wpAny_ite_split (fun _ => ?_) (fun q => absurd ?_ q)
  · refine wpAny_bind (wpAny_typeOf (T := "set") ⟨o, ho, hex.1⟩ ?_)
    dsimp only
    exact wpAny_pure (h false s.toks)
  · decide +kernel
end
namespace Co
abbrev V : Type := (Program) × (World) × (Around) × (Value → Shared → Prop) × (Shared) × (Addr) × (List Int) × (List Value → Shared → Prop)
def Say (prog : Program) (w : World) (A : Around) (E : Value → Shared → Prop) (s : Shared) (a : Addr) (ms : List Int) (Q : List Value → Shared → Prop) : Prop := ∀ (hh : A.handled = none) (hS : SetI prog w s.heap a ms (!byText w)) (h : ∀ vs ns h' d tk, IntsAre vs ns → ns.Perm ms → (∀ b o, s.heap.get? b = some o → h'.get? b = some o) → s.heap.objs.size ≤ h'.objs.size → Q vs { s with heap := h', drawn := d, toks := tk }),
    wpAny (model prog w) A (collect (.ref a)) Q E s
theorem ne : Nonempty V := ⟨(default, (Classical.choice neW), {}, (fun _ _ => True), {}, 0, [], (fun _ _ => True))⟩
noncomputable def c : V := pick ne fun v => Say v.1 v.2.1 v.2.2.1 v.2.2.2.1 v.2.2.2.2.1 v.2.2.2.2.2.1 v.2.2.2.2.2.2.1 v.2.2.2.2.2.2.2
@[irreducible] noncomputable def prog : Program := c.1
@[irreducible] noncomputable def w : World := c.2.1
@[irreducible] noncomputable def A : Around := c.2.2.1
@[irreducible] noncomputable def E : Value → Shared → Prop := c.2.2.2.1
@[irreducible] noncomputable def s : Shared := c.2.2.2.2.1
@[irreducible] noncomputable def a : Addr := c.2.2.2.2.2.1
@[irreducible] noncomputable def ms : List Int := c.2.2.2.2.2.2.1
@[irreducible] noncomputable def Q : List Value → Shared → Prop := c.2.2.2.2.2.2.2
theorem spec_c : Say prog w A E s a ms Q := by
  intro hh hS h
  have hSa := hS
  obtain ⟨o, es, ep, t, ho, hex, hd, hel, hms, hb, hf, ht, hled⟩ := hSa
  unfold collect
  refine wpAny_bind (wpAny_runValue (codeAny_builtin entry_proto_collect' ?_))
  show wpAny _ _ (do again (.builtin "list.__iadd__" ⟨[← newList [], .ref a], []⟩)) _ _ s
  refine wpAny_bind (wpAny_newList (wpAny_pure ⟨Code.quiet_builtin _ (by decide +kernel), codeAny_builtin entry_list_iadd' ?_⟩))
  generalize hH1 : s.heap.push { cls := .type "list", data := .seq ([] : List Value).toArray } = h1
  have k1 : ∀ b o, s.heap.get? b = some o → h1.get? b = some o := fun b o e => hH1 ▸ Heap.get?_push_of_some _ e
  have hN : h1.get? s.heap.objs.size = some { cls := .type "list", data := .seq #[] 0 } := by rw [← hH1]; exact Heap.get?_push_size _ rfl
  have hz1 : h1.objs.size = s.heap.objs.size + 1 := by rw [← hH1]; exact Heap.size_push ..
  have hlt : @LT.lt Nat _ a s.heap.objs.size := Heap.lt_size ho
  show wpAny _ _ (Builtin.List.listExtendWith (.ref s.heap.objs.size) (.ref a) (.ref s.heap.objs.size)) _ _ { s with heap := h1 }
  unfold Builtin.List.listExtendWith
  refine wpAny_bind (wpAny_typeOf (T := "set") ⟨o, k1 _ _ ho, hex.1⟩ ?_)
  have hsame : Builtin.List.listSameRef (.ref s.heap.objs.size) (.ref a) = false := by
    simp [Builtin.List.listSameRef]
    exact Nat.ne_of_gt hlt
  have e2 : (Value.type "set" == Value.type "list") = false := by decide
  have e3 : (Value.type "set" == Value.type "tuple") = false := by decide
  simp only [hsame, e2, e3, Bool.or_false, Bool.false_eq_true, if_false]
  refine wpAny_bind (iter_set (s := { s with heap := h1 }) (hS.at fun o e => k1 _ o e) fun I s' hon => ?_)
  obtain ⟨T0, o', es', ep', t', ord, h2, d, rfl, k2, hI, hT0, hTI, hIl, hTl, hd', hf', hw, ⟨ns, hi, hp⟩, hb', hol⟩ := hon
  dsimp only at k2 hI hT0
  obtain ⟨_, _, ho2, _⟩ := id hw
  have ho1 := k2 _ _ (k1 _ _ ho)
  rw [ho1] at ho2
  cases ho2
  rw [hd] at hd'
  cases hd'
  refine wpAny_bind (wpAny_holding (hint_set ho1 hex hd hf hb fun b tk => ?_))
  refine wpAny_ite_split (fun _ => ?_) (fun q => absurd ?_ q)
  · refine wpAny_bind (wpAny_rule ?_)
    refine wpAny_bind ?_
    show wpAny _ _ (updateSeq s.heap.objs.size (·.push .none) >>= fun _ => updateSeq s.heap.objs.size (·.pop)) _ _ _
    have hN2 := k2 _ _ hN
    refine wpAny_bind (wpAny_updateSeq hN2 rfl ?_)
    have g1 := Heap.get?_update_self (Obj.mapSeq (·.push Value.none)) hN2 rfl
    refine wpAny_updateSeq (hz := by seq_fits) g1 rfl ?_
    have g2 := Heap.get?_update_self (Obj.mapSeq (·.pop)) g1 rfl
    have hNI : s.heap.objs.size ≠ I := fun e => by rw [← e, hN] at hI; cases hI
    have hNa : s.heap.objs.size ≠ a := Nat.ne_of_gt hlt
    have hNT : s.heap.objs.size ≠ T0 := fun e => by
      rcases hT0 with q | q
      · exact hNa (e.trans q)
      · rw [← e, hN] at q; cases q
    have oth : ∀ b o, b ≠ s.heap.objs.size → h2.get? b = some o → ((h2.update s.heap.objs.size (Obj.mapSeq (·.push Value.none))).update s.heap.objs.size (Obj.mapSeq (·.pop))).get? b = some o := fun b o hb e =>
      (Heap.get?_update_other _ _ (Ne.symm hb)).trans ((Heap.get?_update_other _ _ (Ne.symm hb)).trans e)
    have haI : a ≠ I := fun e => by rw [← e, k1 _ _ ho] at hI; cases hI
    have W := (walks_set (prog := prog) (w := w) (A := A.in1) (I := I) (a := a) (T0 := T0) (o := o) (ord := ord) (ep := ep) (by simpa using hh) haI hTI hd hf)
    refine wpAny_pure ⟨plainId_quiet F.plain_extend_loop _, codeAny_extend_loopS (A := A) W.toS (by rw [hol]; exact fits_of_scanBound hb) s.heap.objs.size (by simp only [List.mem_cons, List.not_mem_nil, or_false, not_or]; exact ⟨hNI, hNa, hNT⟩) (.ref s.heap.objs.size) ord.length 0 _ #[] _ (by lia) (Nat.zero_le _)
      (W.frame 0 _ _ hw fun b hb o e => oth b o (fun q => by
        simp only [List.mem_cons, List.not_mem_nil, or_false] at hb
        rcases hb with rfl | rfl | rfl
        · exact hNI q.symm
        · exact hNa q.symm
        · exact hNT q.symm) e) g2 (ItemsOf.nil _) fun s3 acc' c' hm hS3 hacc => ?_⟩
    rw [Moved.eq_with hm]
    show wpAny (model prog w) A (do
      let o ← load s.heap.objs.size
      match o.data with
      | .seq xs _ => pure xs.toList
      | _ => unsupported "internal:collect") Q E _
    refine wpAny_bind (wpAny_load hS3 ?_)
    have hacc2 : acc'.toList = ord.map (·.2) := by
      refine List.ext_getElem? fun i => ?_
      by_cases hi' : i < ord.length
      · have hi2 : i < acc'.size := by rw [hacc.1]; exact hi'
        obtain ⟨e, he, hv⟩ := hacc.2 i acc'[i] (Array.getElem?_eq_getElem hi2)
        rw [List.getElem?_map, he, Array.getElem?_toList, Array.getElem?_eq_getElem hi2, hv]
        rfl
      · rw [List.getElem?_eq_none (by rw [Array.length_toList, hacc.1]; lia), List.getElem?_eq_none (by simpa using by lia)]
    show wpAny _ _ (pure acc'.toList) Q E _
    rw [hacc2]
    refine wpAny_pure (h _ ns _ d _ hi hp (fun b o e => ?_) ?_)
    · have hbn : b ≠ s.heap.objs.size := Nat.ne_of_lt (Heap.lt_size e)
      have hbI : b ≠ I := fun q => by rw [← q, k1 _ _ e] at hI; cases hI
      exact hm.heap b o (by simp only [List.mem_cons, List.not_mem_nil, or_false, not_or]; exact ⟨hbn, hbI⟩) (oth b o hbn (k2 _ _ (k1 _ _ e)))
    · exact Nat.le_of_lt (Heap.lt_size hS3)
  · simp only [Bool.or_eq_true]
    right
    decide +kernel
theorem all : Say c.1 c.2.1 c.2.2.1 c.2.2.2.1 c.2.2.2.2.1 c.2.2.2.2.2.1 c.2.2.2.2.2.2.1 c.2.2.2.2.2.2.2 := by
  have h := spec_c
  unfold prog w A E s a ms Q at h
  exact h
end Co
theorem collect_set {prog : Program} {w : World} {A : Around} {E : Value → Shared → Prop} {s : Shared} {a : Addr} {ms : List Int} {Q : List Value → Shared → Prop} (hh : A.handled = none) (hS : SetI prog w s.heap a ms (!byText w))
    (h : ∀ vs ns h' d tk, IntsAre vs ns → ns.Perm ms → (∀ b o, s.heap.get? b = some o → h'.get? b = some o) → s.heap.objs.size ≤ h'.objs.size → Q vs { s with heap := h', drawn := d, toks := tk }) :
    wpAny (model prog w) A (collect (.ref a)) Q E s := by
  exact of_pick Co.ne (fun v => Co.Say v.1 v.2.1 v.2.2.1 v.2.2.2.1 v.2.2.2.2.1 v.2.2.2.2.2.1 v.2.2.2.2.2.2.1 v.2.2.2.2.2.2.2) Co.all (prog, w, A, E, s, a, ms, Q) hh hS h
section
variable {prog : Program} {w : World} {A : Around} {E : Value → Shared → Prop} {s : Shared}
end
end RS
end PartS9

section PartSA
open PySem PySem.W PyProof.Rows PySem.Calls
set_option Elab.async false
set_option maxRecDepth 100000
namespace RS
section
variable {prog : Program} {w : World} {A : Around} {E : Value → Shared → Prop} {s : Shared}
/-- sorted(set of ints) -/
theorem sorted_set {a : Addr} {ms : List Int} {Q : Value → Shared → Prop} (hh : A.handled = none) (hS : SetI prog w s.heap a ms (!byText w)) (h64 : ms.length < 64)
    (h : ∀ D vs ns h' d tk nn, h'.get? D = some (listOf (List.toArray vs) nn) → IntsAre vs ns → ns.Perm ms → ns.Pairwise (· ≤ ·) → s.heap.get? D = none → (∀ b o, s.heap.get? b = some o → h'.get? b = some o) → Q (.ref D) { s with heap := h', drawn := d, toks := tk }) :
    wpAny (model prog w) A (call (.builtin "sorted") [.ref a]) Q E s := by
  refine Calls.call_function_entry kind_sorted plain_sorted entry_sorted (args_sorted1 _) ?_
  unfold Builtin.«sorted»
  refine wpAny_bind (m := checkCount "sorted" 1 1 _) (wpAny_pure ?_)
  refine wpAny_bind (collect_set (by simpa using hh) hS fun vs ns h1 d tk hI hp k1 hz => ?_)
  have hl : vs.length = ns.length := hI.length
  have hl2 : ns.length = ms.length := hp.length_eq
  refine wpAny_bind (wpAny_newList ?_ (by rw [sizeLine_eq]; lia))
  generalize hH2 : h1.push { cls := .type "list", data := .seq vs.toArray } = h2
  have k2 : ∀ b o, h1.get? b = some o → h2.get? b = some o := fun b o e => hH2 ▸ Heap.get?_push_of_some _ e
  have hD : h2.get? h1.objs.size = some (seqObj "list" vs.toArray 0) := by rw [← hH2]; exact Heap.get?_push_size _ rfl
  have hT : Shared.TypeIs { s with heap := h2, drawn := d, toks := tk } (.ref h1.objs.size) "list" := ⟨_, hD, rfl⟩
  refine wpAny_bind (wpAny_holding (wpAny_call_entry slot_list_sort hT entry_list_sort ?_ (args_list_sort _)))
  refine list_sort_tree (s := { s with heap := h2, drawn := d, toks := tk }) hD hI (by lia) fun out ns' o1 o2 o3 => ?_
  refine ⟨_, rfl, wpAny_pure ⟨_, rfl, ?_⟩⟩
  obtain ⟨e, he⟩ := sortedHeap_at (vs := vs) (out := out) hD
  refine h h1.objs.size out.toList ns' _ d tk e (by simpa using he) o1 (o2.trans hp) o3 (Heap.get?_none_of_le hz) fun b o q => ?_
  have hlt : @LT.lt Nat _ b h1.objs.size := Heap.lt_size (k1 b o q)
  rw [sortedHeap_old (Nat.ne_of_lt hlt) (Nat.lt_trans hlt (Heap.lt_size hD))]
  exact k2 _ _ (k1 _ _ q)
end
end RS
end PartSA

section PartL6
open PySem PySem.W PyProof.Rows PySem.Calls
set_option Elab.async false
set_option maxRecDepth 100000
namespace RS
/-- the table of a def's own codes: nothing yet, or the one lambda's -/
def LamTab (pos : Pos) (qual : Str) (ps : Array Value) (G : Heap) : Prop := ps = #[] ∨ ∃ c', ps = #[rawInt pos.line, rawInt pos.col, .ref c'] ∧ G.CodeRec (.ref c') qual
theorem LamTab.keeps {pos : Pos} {qual : Str} {ps : Array Value} {G G' : Heap} (x : LamTab pos qual ps G) (k : Sub G G') : LamTab pos qual ps G' := by
  rcases x with x | ⟨c', e, x⟩
  · exact .inl x
  · exact .inr ⟨c', e, x.keeps k⟩
theorem LamTab.triples {pos : Pos} {qual : Str} {ps : Array Value} {G : Heap} (x : LamTab pos qual ps G) : TriplesOk ps.toList := by
  rcases x with rfl | ⟨c', rfl, _⟩
  · exact True.intro
  · simp [TriplesOk, rawInt]
section
variable {prog : Program} {w : World} {A : Around} {E : Value → Shared → Prop} {s : Shared}
theorem Fm.qualL {g : Heap} {env : Env} {xs : List (Addr × Obj)} {G h : Heap} {m : Str → Option Value} (_ : Fm g env xs G h m) : ∃ q : Str, env.qual ++ "<lambda>" = q := ⟨_, rfl⟩
theorem Fm.lam {g : Heap} {env : Env} {xs₁ xs₂ : List (Addr × Obj)} {G : Heap} {m mg mb : Str → Option Value} {P c : Addr} {ps : Array Value} {p : Program} {loose : List Str} {mean : ExcName → Option Value} {params : Arguments} {body : PySem.Expr} {scope : Scope} {pos : Pos} {clos : List (Str × Addr)} {qual : Str} {Q : Value → Shared → Prop}
    (S : Fm g env (xs₁ ++ (P, tabObj ps) :: xs₂) G s.heap m) (T : Top p loose mean mg mb g) (C : CodeHd g c P) (hge : env.globals = mainGlobals) (hcode : env.code = .ref c) (hcl : closureFor scope env = pure clos) (hqual : env.qual ++ "<lambda>" = qual) (hdef : defaultsOf params env = ([], []))
    (ht : LamTab pos qual ps G)
    (h : ∀ f c' ctv ps' G' h' tk, Fm g env (xs₁ ++ (P, tabObj ps') :: xs₂) G' h' m → Sub G G' → LamTab pos qual ps' G' → G'.get? f = some (kla_obj "<lambda>" qual params body scope clos ((mg "__name__").getD .none) c' ctv) → G'.CodeRec (.ref c') qual →
      s.heap.get? f = none → Q (.ref f) { s with heap := h', toks := tk }) :
    wpAny (model prog w) A (eval (.Lambda params body scope pos) env) Q E s := by
  subst hqual
  refine kla_eval hdef ?_
  have hPin : (P, tabObj ps) ∈ xs₁ ++ (P, tabObj ps) :: xs₂ := List.mem_append_right _ (.head _)
  obtain ⟨hPG, hPh⟩ := S.s.oth _ hPin
  have hgs := T.g.keeps S.kb
  obtain ⟨bm, ob, b1, b2, b3, b4, b5, b6⟩ := T.bmain
  have hgP : mainGlobals ≠ P := fun q => by
    obtain ⟨o, es, ep, e, hd, _⟩ := hgs
    rw [q, hPh] at e; cases e; cases hd
  have hbP : bm ≠ P := fun q => by
    have e := S.b _ _ b3
    rw [q, hPG] at e; cases e
  have hbG : bm ≠ mainGlobals := fun q => by
    obtain ⟨o, es, ep, e, hd, _⟩ := T.g
    rw [q, e] at b3; cases b3; rw [hd] at b6; cases b6
  have hbuilt : s.heap.BuiltinsAt mg P := ⟨bm, ob, b1, b2, hbG, hbP, S.kb _ _ b3, b4, b5, b6⟩
  have hnames : (xs₁ ++ (P, tabObj ps) :: xs₂).map (·.1) = xs₁.map (·.1) ++ P :: xs₂.map (·.1) := by rw [List.map_append, List.map_cons]
  have hother : ∀ q ∈ xs₁ ++ xs₂, q.1 ≠ P := fun q hq e => by
    have hn := S.s.xn
    rw [hnames] at hn
    have hn' := (List.perm_middle (a := P) (l₁ := xs₁.map (·.1)) (l₂ := xs₂.map (·.1))).nodup_iff.mp hn
    rw [List.nodup_cons] at hn'
    exact hn'.1 (by rw [← List.map_append, ← e]; exact List.mem_map_of_mem hq)
  -- all that stands but the table
  have turn : ∀ (h' : Heap) (ps' : Array Value), (∀ b o, b ≠ P → s.heap.get? b = some o → h'.get? b = some o) → h'.get? P = some (tabObj ps') →
      ∃ G', Fm g env (xs₁ ++ (P, tabObj ps') :: xs₂) G' h' m ∧ Sub G G' ∧ ∀ b o, s.heap.get? b = none → h'.get? b = some o → G'.get? b = some o := by
    intro h' ps' k hP'
    obtain ⟨S', a, b⟩ := S.s.turn (h' := h') (ys := xs₁ ++ (P, tabObj ps') :: xs₂) (by rw [List.map_append, List.map_cons, hnames]) (fun b o hb e => k b o (fun q => hb (by rw [q, hnames]; exact List.mem_append_right _ (.head _))) e) (fun q hq => by
      rcases List.mem_append.mp hq with hq | hq
      · exact k _ _ (hother q (List.mem_append_left _ hq)) (S.s.oth q (List.mem_append_left _ hq)).2
      · rcases List.mem_cons.mp hq with rfl | hq
        · exact hP'
        · exact k _ _ (hother q (List.mem_append_right _ hq)) (S.s.oth q (List.mem_append_right _ (.tail _ hq))).2)
    exact ⟨_, ⟨S', S.b.trans a⟩, a, b⟩
  rcases id ht with rfl | ⟨c', rfl, hrec⟩
  · refine kla_makeFunction (mg := mg) hcl hge hgs hcode (C.keeps S.kb) hPh True.intro rfl hgP hbuilt fun c' ctv h' tk hx hge' hlt hrec htb => ?_
    obtain ⟨G', S', a, n⟩ := turn (h'.push (kla_obj "<lambda>" (env.qual ++ "<lambda>") params body scope clos ((mg "__name__").getD .none) c' ctv)) _ (fun b o hb e => Heap.get?_push_of_some _ (hx b o hb e)) (Heap.get?_push_of_some _ htb)
    have hrec' : G'.CodeRec (.ref c') (env.qual ++ "<lambda>") := by
      obtain ⟨c2, o2, vs, t, e, e2, e3⟩ := hrec
      cases e
      exact ⟨c', o2, vs, t, rfl, n _ _ (Heap.get?_none_of_le hge') (Heap.get?_push_of_some _ e2), e3⟩
    have hfn : s.heap.get? h'.objs.size = none := Heap.get?_none_of_le (Nat.le_of_lt (Nat.lt_of_le_of_lt hge' hlt))
    exact h _ c' ctv _ G' _ _ S' a (.inr ⟨c', rfl, hrec'⟩) (n _ _ hfn (Heap.get?_push_size _ rfl)) hrec' hfn
  · refine kla_makeFunctionHit (mg := mg) (cv := .ref c') hcl hge hgs hcode (C.keeps S.kb) hPh ht.triples (by simp [codeAmong, rawInt]) hbuilt fun ctv h' tk hk hsz => ?_
    obtain ⟨G', S', a, n⟩ := turn (h'.push (kla_obj "<lambda>" (env.qual ++ "<lambda>") params body scope clos ((mg "__name__").getD .none) c' ctv)) _ (fun b o hb e => Heap.get?_push_of_some _ (hk b o e)) (Heap.get?_push_of_some _ (hk _ _ hPh))
    have hfn : s.heap.get? h'.objs.size = none := Heap.get?_none_of_le hsz
    exact h _ c' ctv _ G' _ _ S' a (.inr ⟨c', rfl, hrec.keeps a⟩) (n _ _ hfn (Heap.get?_push_size _ rfl)) (hrec.keeps a) hfn
/-- entering a lambda -/
theorem lam_enter {R : Result → Shared → Prop} {name qual : Str} {params : Arguments} {body : PySem.Expr} {scope : Scope} {cl : List (Str × Addr)} {pm ctv : Value} {c' f : Addr} {args : Args} {binds : List (Str × Value)} {mc : Str → Option Value}
    (ho : s.heap.get? f = some (kla_obj name qual params body scope cl pm c' ctv)) (hcd : s.heap.CodeRec (.ref c') qual) (hlim : s.heap.NoLimit) (hroom : A.depth < recursionLimit)
    (hbind : bindArgs (kla_fn name qual params body scope cl pm (.ref c') ctv) args = pure binds) (hloc : ∀ y ∈ binds, scope.names.lookup y.1 = some .local) (hnd : (binds.map (·.1)).Nodup)
    (hcells : ∀ x d, cl.lookup x = some d → scope.names.lookup x = some .free ∧ s.heap.IsCell d (mc x))
    (h : ∀ h₁ M tk, Vw (envX qual scope s.heap.objs.size f (.ref c') cl) h₁ M → Sub s.heap h₁ → (∀ y ∈ binds, M y.1 = some y.2) → (∀ y, scope.names.lookup y = some .free → M y = mc y) →
      wpAny (model prog w) (A.deeper (envX qual scope s.heap.objs.size f (.ref c') cl)) (eval body (envX qual scope s.heap.objs.size f (.ref c') cl)) (fun v s' => R (.ok (.ret v)) s') (fun _ _ => False) { s with heap := h₁, toks := tk })
    (hco : scope.isCoroutine = false) (hgen : scope.isGenerator = false) (hk : scope.kind = .function) (hcell : ∀ x ∈ scope.names, x.2 ≠ .cell) : codeAny (model prog w) A (.call (.ref f) args) R s := by
  refine kla_callFunE hroom ho rfl hco hgen rfl hcd ?_
  rw [hbind]
  refine wpAny_pure (wpAny_newFunctionEnv hcell hloc (fun h₁ hns hsb => ⟨hlim.fresh _ hsb, ?_⟩) hk)
  show codeAny _ _ (.expr body (envX qual scope s.heap.objs.size f (.ref c') cl)) _ _
  have k₁ : ∀ b o, s.heap.get? b = some o → h₁.get? b = some o := fun b o e => hsb.extBut b o (Nat.ne_of_lt (Heap.lt_size e)) (Heap.get?_push_of_some _ e)
  have hlk : ∀ (l : List (Str × Value)), (l.map (·.1)).Nodup → ∀ y ∈ l, l.lookup y.1 = some y.2 := fun l hl y hy => lookup_of_mem hl hy
  refine kla_codeExpr (wpAny_mono (h h₁ (fun y => if scope.names.lookup y = some .local then binds.reverse.lookup y else mc y) _ ⟨⟨_, hns, fun y hy => ?_⟩, fun x d e => ?_⟩ k₁ (fun y hy => ?_) (fun y hy => ?_)) (fun _ _ z => z) fun _ _ z => z.elim)
  · exact (if_pos hy).symm
  · obtain ⟨e1, e2⟩ := hcells x d e
    rw [if_neg (by rw [e1]; decide)]
    exact e2.keeps k₁
  · rw [if_pos (hloc y hy)]
    exact lookup_of_mem (by rw [List.map_reverse]; exact (List.reverse_perm _).nodup_iff.mpr hnd) (List.mem_reverse.mpr hy)
  · rw [if_neg (by rw [hy]; decide)]
/-- a list drawn out by what an iterator tells -/
theorem ext_loop {R : Result → Shared → Prop} {I S : Addr} {n : Nat} {P : Nat → Value → Prop} {St : Nat → Heap → Prop} (W : Walks prog w A.in1 I [I] [I] n P St) (hSI : S ≠ I) (res : Value) :
    ∀ (k i : Nat) (h : Heap) (tk : Nat) (acc : List Value) (c : Nat), n - i = k → i ≤ n → St i h → h.get? S = some (listOf acc.toArray c) → acc.length + (n - i) ≤ sizeLine →
      (∀ h' tk' items c', (∀ b o, b ≠ S → b ≠ I → h.get? b = some o → h'.get? b = some o) → h'.get? S = some (listOf (List.toArray (acc ++ items)) c') → items.length = n - i → (∀ j v, items[j]? = some v → P (i + j) v) → R (.ok (.ret res)) { s with heap := h', toks := tk' }) →
      codeAny (model prog w) A (.builtin "list.extend.loop" ⟨[.ref S, .ref I, res], []⟩) R { s with heap := h, toks := tk } := by
  intro k
  induction k with
  | zero =>
    intro i h tk acc c hk hi hst hS hsz hR
    have hin : i = n := by lia
    subst hin
    refine codeAny_builtin F.entry_extend_loop ?_
    rw [Around.under_plainId F.plain_extend_loop _]
    show wpAny _ A.in1 (pyNext (.ref I) >>= _) _ _ _
    refine wpAny_bind (W.done _ _ _ hst fun h' tk' k' => ?_)
    exact wpAny_pure (hR h' tk' [] c (fun b o _ hb e => k' b o (by simpa using hb) e) (by simpa using k' S _ (by simpa using hSI) hS) (by simp) fun j v e => by simp at e)
  | succ k ih =>
    intro i h tk acc c hk hi hst hS hsz hR
    refine codeAny_builtin F.entry_extend_loop ?_
    rw [Around.under_plainId F.plain_extend_loop _]
    show wpAny _ A.in1 (pyNext (.ref I) >>= _) _ _ _
    refine wpAny_bind (W.item i _ _ _ (by lia) hst fun v h' tk' hP hst' k' => ?_)
    have hS' := k' S _ (by simpa using hSI) hS
    show wpAny _ A.in1 (updateSeq S (·.push v) >>= _) _ _ _
    refine wpAny_bind ?_
    have hg := Heap.get?_update_self (Obj.mapSeq (·.push v)) hS' rfl
    have hg2 : (h'.update S (Obj.mapSeq (·.push v))).get? S = some (listOf (acc ++ [v]).toArray (c + 1)) := by
      rw [hg, mapSeq_push, List.push_toArray]
    refine wpAny_updateSeq hS' rfl (wpAny_pure ⟨plainId_quiet F.plain_extend_loop _, ih (i + 1) _ tk' (acc ++ [v]) _ (by lia) (by lia) (W.frame _ _ _ hst' fun b hb o e => ?_) hg2 (by rw [List.length_append, List.length_singleton]; lia) fun h2 tk2 items c2 k2 h2S hl hp => ?_⟩)
      (by rw [List.size_toArray]; lia) (by show (acc.toArray.push v).size ≤ sizeLine + 1; rw [Array.size_push, List.size_toArray]; lia)
    · rw [List.mem_singleton.mp hb] at e ⊢
      exact (Heap.get?_update_other _ _ hSI).trans e
    · refine hR h2 tk2 (v :: items) c2 (fun b o h1 h3 e => k2 b o h1 h3 ((Heap.get?_update_other _ _ (Ne.symm h1)).trans (k' b o (by simpa using h3) e))) (by simpa using h2S) (by rw [List.length_cons, hl]; lia) fun j u e => ?_
      cases j with
      | zero => cases e; exact hP
      | succ j => have := hp j u (by simpa using e); rw [show i + (j + 1) = i + 1 + j by lia]; exact this
end
end RS
end PartL6

section PartL7
open PySem PySem.W PyProof.Rows PySem.Calls
set_option Elab.async false
set_option maxRecDepth 100000
namespace RS
section
variable {prog : Program} {w : World} {A : Around} {E : Value → Shared → Prop} {s : Shared}
theorem ints_of_range {a c : Int} {n i : Nat} {items : List Value} (hl : items.length = n) (hp : ∀ j v, items[j]? = some v → ∃ t, v = Value.int (a + ((i + j : Nat) : Int) * c) t) : IntsAre items ((List.range' i n).map fun j : Nat => a + (j : Int) * c) := by
  induction n generalizing i items with
  | zero =>
    rw [List.length_eq_zero_iff.mp hl]
    exact .nil
  | succ n ih =>
    cases items with
    | nil => cases hl
    | cons v items =>
      obtain ⟨t, rfl⟩ := hp 0 v rfl
      rw [List.range'_succ, List.map_cons]
      refine .cons _ t (ih (by simpa using hl) fun j v e => ?_)
      obtain ⟨t', e'⟩ := hp (j + 1) v (by simpa using e)
      exact ⟨t', by rw [e', show i + (j + 1) = i + 1 + j by lia]⟩
theorem IntsAre.append {vs ws : List Value} {ns ms : List Int} (h : IntsAre vs ns) (k : IntsAre ws ms) : IntsAre (vs ++ ws) (ns ++ ms) := by
  induction h with
  | nil => exact k
  | cons x t _ ih => exact .cons x t ih
/-- list.extend by a range -/
theorem ext_range {S r : Addr} {acc : List Value} {nn : Nat} {a b c : Int} {t u v : Tok} {n : Nat} {Q : Value → Shared → Prop} (hh : A.handled = none) (hS : s.heap.get? S = some (listOf acc.toArray nn)) (hr : IsRange s.heap r a b c t u v) (hsmall : Builtin.Range.small a b c = true)
    (hn : Builtin.Range.rangeSize a b c = n) (hlen : acc.length + n + 1 ≤ 2 ^ 24)
    (h : ∀ h' tk items nn', (∀ b o, b ≠ S → s.heap.get? b = some o → h'.get? b = some o) → h'.get? S = some (listOf (List.toArray (acc ++ items)) nn') → IntsAre items ((List.range n).map fun j : Nat => a + (j : Int) * c) → Q .none { s with heap := h', toks := tk }) :
    wpAny (model prog w) A (call (.builtin "list.extend") [.ref S, .ref r]) Q E s := by
  have hSr : S ≠ r := fun e => by rw [e, hr] at hS; simp [W.listOf] at hS
  have hSlt : S < s.heap.objs.size := Heap.lt_size hS
  have hSI : S ≠ s.heap.objs.size := Nat.ne_of_lt hSlt
  refine wpAny_call (codeAny_call_builtin PySem.F.slot_list_extend.plain PySem.F.entry_list_extend (PySem.F.slot_list_extend.check _ _ _ _ _ _ _ _ ⟨_, hS, rfl⟩ (PySem.F.args_list_extend_2 _ _) ?_))
  show wpAny _ A.in1 (Builtin.List.listExtendWith (.ref S) (.ref r) .none) _ _ _
  have W := Walks.range (prog := prog) (w := w) (A := A.in1) hh s.heap.objs.size a c n
  have key : ∀ (R : Result → Shared → Prop) (h' : Heap) (c₁ tk : Nat), (∀ v s', (v = .none ∧ Q .none s') → R (.ok (.ret v)) s') → IsRangeIter h' s.heap.objs.size (a + ((0 : Nat) : Int) * c) ((n : Int) - ((0 : Nat) : Int)) c → (∀ b o, b ≠ S → s.heap.get? b = some o → h'.get? b = some o) →
      h'.get? S = some (listOf acc.toArray c₁) → codeAny (model prog w) A (.builtin "list.extend.loop" ⟨[.ref S, .ref s.heap.objs.size, .none], []⟩) R { s with heap := h', toks := tk } := by
    intro R h' c₁ tk hR hit hk hS₁
    refine ext_loop W hSI .none n 0 h' tk acc c₁ rfl (Nat.zero_le _) hit hS₁ (by rw [sizeLine_eq]; lia) fun h2 tk2 items c2 k2 hS2 hl hp => hR _ _ ⟨rfl, h h2 tk2 items c2 (fun b o hb e => k2 b o hb (fun q => ?_) (hk b o hb e)) hS2 ?_⟩
    · exact absurd (Heap.lt_size e) (by rw [q]; exact Nat.lt_irrefl _)
    · rw [List.range_eq_range']
      exact ints_of_range (by lia) hp
  unfold Builtin.List.listExtendWith
  refine wpAny_bind (wpAny_typeOf (T := "range") ⟨_, hr, rfl⟩ ?_)
  have h1 : Builtin.List.listSameRef (.ref S) (.ref r) = false := by simp [Builtin.List.listSameRef, hSr]
  have h2 : (Value.type "range" == Value.type "list") = false := by decide
  have h3 : (Value.type "range" == Value.type "tuple") = false := by decide
  simp only [h1, h2, h3, Bool.or_false, Bool.false_eq_true, if_false]
  refine wpAny_bind (wpAny_pyIter_range hr hsmall ?_)
  refine wpAny_bind (wpAny_holding (wpAny_hint_range (n := n) (Heap.get?_push_of_some _ hr) hn (by lia) ?_))
  have hit₁ : IsRangeIter (s.heap.push { cls := .type "range_iterator", data := .fields #[rawInt a, rawInt (Builtin.Range.rangeSize a b c), rawInt c] }) s.heap.objs.size (a + ((0 : Nat) : Int) * c) ((n : Int) - ((0 : Nat) : Int)) c := by
    show IsRangeIter _ _ _ _ _; rw [hn]; simpa using Heap.get?_push_size _ rfl
  have hS₁ := Heap.get?_push_of_some { cls := .type "range_iterator", data := .fields #[rawInt a, rawInt (Builtin.Range.rangeSize a b c), rawInt c] } hS
  refine wpAny_ite_split (fun _ => ?_) (fun _ => wpAny_pure ⟨plainId_quiet F.plain_extend_loop _, key _ _ nn _ (fun v s' q => ?_) hit₁ (fun b o _ e => Heap.get?_push_of_some _ e) hS₁⟩)
  · refine wpAny_bind (wpAny_rule ?_)
    refine wpAny_bind ?_
    show wpAny _ _ (updateSeq S (·.push .none) >>= fun _ => updateSeq S (·.pop)) _ _ _
    have hS₂ := PySem.IsL.update hS₁ (·.push Value.none)
    have hS₃ := PySem.IsL.update hS₂ (·.pop)
    refine wpAny_bind (wpAny_updateSeq hS₁ rfl ?_ (by rw [List.size_toArray, sizeLine_eq]; lia) (by show (acc.toArray.push _).size ≤ _; rw [Array.size_push, List.size_toArray, sizeLine_eq]; lia))
    refine wpAny_updateSeq hS₂ rfl ?_ (by rw [Array.size_push, List.size_toArray, sizeLine_eq]; lia) (by show ((acc.toArray.push _).pop).size ≤ _; rw [Array.size_pop, Array.size_push, List.size_toArray, sizeLine_eq]; lia)
    refine wpAny_pure ⟨plainId_quiet F.plain_extend_loop _, key _ _ _ _ (fun v s' q => ?_) ?_ (fun b o hb e => ?_) (by rw [hS₃, Array.pop_push])⟩
    · obtain ⟨rfl, q⟩ := q; exact q
    · exact (Heap.get?_update_other _ _ hSI).trans ((Heap.get?_update_other _ _ hSI).trans hit₁)
    · exact (Heap.get?_update_other _ _ (Ne.symm hb)).trans ((Heap.get?_update_other _ _ (Ne.symm hb)).trans (Heap.get?_push_of_some _ e))
  · obtain ⟨rfl, q⟩ := q; exact q
end
end RS
end PartL7

section PartL8
open PySem PySem.W PyProof.Rows PySem.Calls
set_option Elab.async false
set_option maxRecDepth 100000
namespace RS
section
variable {prog : Program} {w : World} {A : Around} {E : Value → Shared → Prop} {s : Shared} {g : Heap} {env : Env} {xs xs₁ xs₂ : List (Addr × Obj)} {G h h' : Heap} {m : Str → Option Value}
theorem Fm.xe {ys : List (Addr × Obj)} (S : Fm g env xs G h m) (e : xs = ys) : Fm g env ys G h m := e ▸ S
theorem Fm.lstX {items : List Value} {Q : Value → Shared → Prop} (S : Fm g env xs G s.heap m)
    (h : ∀ D h', Fm g env ((D, W.listOf items.toArray 0) :: xs) G h' m → s.heap.get? D = none → Sub s.heap h' → Q (.ref D) { s with heap := h' }) (hsz : items.length ≤ sizeLine := by size_fits) : wpAny (model prog w) A (newList items) Q E s := by
  refine wpAny_newList ?_ hsz
  have k : Sub s.heap (s.heap.push { cls := .type "list", data := .seq items.toArray }) := fun b o e => Heap.get?_push_of_some _ e
  have hn : s.heap.get? s.heap.objs.size = none := Heap.get?_none_of_le (Nat.le_refl _)
  have hne : ∀ b ∈ Sit.offs env xs, s.heap.objs.size ≠ b := fun b hb e => by
    obtain ⟨o, ho⟩ := (S.s.off_ex b hb).2
    rw [← e, hn] at ho; cases ho
  refine h _ _ ⟨⟨S.s.v.keeps k, S.s.sub.trans k, S.s.loc, S.s.cel, List.forall_mem_cons.mpr ⟨⟨none_of_sub S.s.sub hn, Heap.get?_push_size _ rfl⟩, fun p hp => ⟨(S.s.oth p hp).1, k _ _ (S.s.oth p hp).2⟩⟩, List.forall_mem_cons.mpr ⟨⟨hne _ (.head _), fun x c e => hne _ (.tail _ (List.mem_append.mpr (.inl (List.mem_map.mpr ⟨_, mem_of_lookup e, rfl⟩))))⟩, S.s.ne⟩, S.s.apart, S.s.nc, S.s.nd, ?_⟩, S.b⟩ hn k
  rw [List.map_cons, List.nodup_cons]
  exact ⟨fun q => hne _ (.tail _ (List.mem_append.mpr (.inr q))) rfl, S.s.xn⟩
/-- one of the others is turned -/
theorem Fm.setX {D : Addr} {o o' : Obj} (S : Fm g env (xs₁ ++ (D, o) :: xs₂) G h m) (k : ∀ b o, b ≠ D → h.get? b = some o → h'.get? b = some o) (hD : h'.get? D = some o') :
    ∃ G', Fm g env (xs₁ ++ (D, o') :: xs₂) G' h' m ∧ Sub G G' ∧ ∀ b o, h.get? b = none → h'.get? b = some o → G'.get? b = some o := by
  have hnames : (xs₁ ++ (D, o) :: xs₂).map (·.1) = xs₁.map (·.1) ++ D :: xs₂.map (·.1) := by rw [List.map_append, List.map_cons]
  have hother : ∀ q ∈ xs₁ ++ xs₂, q.1 ≠ D := fun q hq e => by
    have hn := S.s.xn
    rw [hnames] at hn
    have hn' := (List.perm_middle (a := D) (l₁ := xs₁.map (·.1)) (l₂ := xs₂.map (·.1))).nodup_iff.mp hn
    rw [List.nodup_cons] at hn'
    exact hn'.1 (by rw [← List.map_append, ← e]; exact List.mem_map_of_mem hq)
  obtain ⟨S', a, b⟩ := S.s.turn (h' := h') (ys := xs₁ ++ (D, o') :: xs₂) (by rw [List.map_append, List.map_cons, hnames]) (fun b o hb e => k b o (fun q => hb (by rw [q, hnames]; exact List.mem_append_right _ (.head _))) e) (fun q hq => by
    rcases List.mem_append.mp hq with hq | hq
    · exact k _ _ (hother q (List.mem_append_left _ hq)) (S.s.oth q (List.mem_append_left _ hq)).2
    · rcases List.mem_cons.mp hq with rfl | hq
      · exact hD
      · exact k _ _ (hother q (List.mem_append_right _ hq)) (S.s.oth q (List.mem_append_right _ (.tail _ hq))).2)
  exact ⟨_, ⟨S', S.b.trans a⟩, a, b⟩
theorem Fm.atX {D : Addr} {o : Obj} (S : Fm g env (xs₁ ++ (D, o) :: xs₂) G h m) : G.get? D = none ∧ h.get? D = some o := S.s.oth (D, o) (List.mem_append_right _ (.head _))
/-- the method of a list -/
theorem Fm.methX {D : Addr} {its : Array Value} {n : Nat} {name : Str} {id : String} {pl : Sem Bool} {Q : Value × List Value → Shared → Prop} (S : Fm g env (xs₁ ++ (D, W.listOf its n) :: xs₂) G s.heap m) (slot : Slot "list" name id) (hty : typeOf (.builtin id) = pure (.type "method_descriptor"))
    (h : Q (.builtin id, [.ref D]) s) : wpAny (model prog w) A (getMethod (.ref D) name pl) Q E s :=
  getMethod_builtin ⟨_, S.atX.2, rfl⟩ PySem.F.plainAttrs_list slot hty (fun a e => by cases e; exact ⟨_, S.atX.2, rfl⟩) h
theorem Fm.extX {D r : Addr} {acc : List Value} {nn : Nat} {a b c : Int} {t u v : Tok} {n : Nat} {Q : Value → Shared → Prop} (hh : A.handled = none) (S : Fm g env (xs₁ ++ (D, W.listOf acc.toArray nn) :: xs₂) G s.heap m) (hr : IsRange s.heap r a b c t u v) (hsmall : Builtin.Range.small a b c = true)
    (hn : Builtin.Range.rangeSize a b c = n) (hlen : acc.length + n + 1 ≤ 2 ^ 24)
    (h : ∀ h' tk items nn' G', Fm g env (xs₁ ++ (D, W.listOf (List.toArray (acc ++ items)) nn') :: xs₂) G' h' m → Sub G G' → IntsAre items ((List.range n).map fun j : Nat => a + (j : Int) * c) → Q .none { s with heap := h', toks := tk }) :
    wpAny (model prog w) A (call (.builtin "list.extend") [.ref D, .ref r]) Q E s :=
  ext_range hh S.atX.2 hr hsmall hn hlen fun h' tk items nn' k e hi => let ⟨G', S', a, _⟩ := S.setX k e; h h' tk items nn' G' S' a hi
theorem Fm.range1 {n : Int} {t : Tok} {Q : Value → Shared → Prop} (S : Fm g env xs G s.heap m) (h : ∀ r G' h' tk t' u', Fm g env xs G' h' m → Sub G G' → IsRange G' r 0 n 1 t' t u' → s.heap.get? r = none → Q (.ref r) { s with heap := h', toks := tk }) :
    wpAny (model prog w) A (call (.type "range") [.int n t]) Q E s := by
  refine call_range_1 ?_
  have k : Sub s.heap (s.heap.push { cls := .type "range", data := .fields #[.int 0 s.toks, .int n t, .int 1 (s.toks + 1)] }) := fun b o e => Heap.get?_push_of_some _ e
  obtain ⟨G', S', a, b⟩ := S.up k
  exact h _ G' _ _ _ _ S' a (b _ _ (Heap.get?_none_of_le (Nat.le_refl _)) (IsRange.new ..)) (Heap.get?_none_of_le (Nat.le_refl _))
theorem Fm.range2 {a b : Int} {t u : Tok} {Q : Value → Shared → Prop} (S : Fm g env xs G s.heap m) (h : ∀ r G' h' tk u', Fm g env xs G' h' m → Sub G G' → IsRange G' r a b 1 t u u' → s.heap.get? r = none → Q (.ref r) { s with heap := h', toks := tk }) :
    wpAny (model prog w) A (call (.type "range") [.int a t, .int b u]) Q E s := by
  refine call_range_2 ?_
  have k : Sub s.heap (s.heap.push { cls := .type "range", data := .fields #[.int a t, .int b u, .int 1 s.toks] }) := fun b o e => Heap.get?_push_of_some _ e
  obtain ⟨G', S', a, b⟩ := S.up k
  exact h _ G' _ _ _ S' a (b _ _ (Heap.get?_none_of_le (Nat.le_refl _)) (IsRange.new ..)) (Heap.get?_none_of_le (Nat.le_refl _))
theorem Fm.range3 {a b c : Int} {t u v : Tok} {Q : Value → Shared → Prop} (S : Fm g env xs G s.heap m) (hc : 1 ≤ c) (hc2 : c < 2 ^ 20) (hab : b - a < 2 ^ 20) (hab2 : -(2 ^ 20) < b - a) (h : ∀ r G' h' tk, Fm g env xs G' h' m → Sub G G' → IsRange G' r a b c t u v → s.heap.get? r = none → Q (.ref r) { s with heap := h', toks := tk }) :
    wpAny (model prog w) A (call (.type "range") [.int a t, .int b u, .int c v]) Q E s := by
  refine call_range_3 (by lia) ?_ (Or.inl (PyProof.noPylong_small (by lia)))
  have k : Sub s.heap (s.heap.push { cls := .type "range", data := .fields #[.int a t, .int b u, .int c v] }) := fun b o e => Heap.get?_push_of_some _ e
  obtain ⟨G', S', a, b⟩ := S.up k
  exact h _ G' _ _ S' a (b _ _ (Heap.get?_none_of_le (Nat.le_refl _)) (IsRange.new ..)) (Heap.get?_none_of_le (Nat.le_refl _))
end
/-- the marks of one ruler far behind -/
theorem far_mem {f k x b : Int} {beg : Nat} (hk : 1 ≤ k) (hf : f ≤ k) (hx : 0 ≤ x) (h1 : x < f + k * beg) (h2 : beg = 0 ∨ f + k * ((beg : Int) - 1) ≤ x) (y : Int) :
    y ∈ (List.range (Builtin.Range.rangeSize (f + k * beg) (x + b + 1) k).toNat).map (fun j : Nat => f + k * beg + (j : Int) * k) ↔ x < y ∧ y ≤ x + b ∧ k ∣ y - f := by
  have hsz : Builtin.Range.rangeSize (f + k * beg) (x + b + 1) k = if f + k * beg < x + b + 1 then (x + b + 1 - (f + k * beg) - 1) / k + 1 else 0 := by
    unfold Builtin.Range.rangeSize
    rw [if_pos (by lia)]
  rw [List.mem_map, hsz]
  constructor
  · rintro ⟨j, hj, rfl⟩
    rw [List.mem_range] at hj
    split at hj
    · rename_i h
      have hj' : (j : Int) ≤ (x + b + 1 - (f + k * beg) - 1) / k := by lia
      have e := Int.mul_le_of_le_ediv (by lia) hj'
      refine ⟨by have := Int.mul_nonneg (Int.natCast_nonneg j) (show 0 ≤ k by lia); lia, by lia, (beg : Int) + j, ?_⟩
      rw [Int.mul_add, Int.mul_comm k (j : Int)]; lia
    · simp at hj
  · rintro ⟨y1, y2, q, hq⟩
    have hqb : (beg : Int) ≤ q := by
      rcases Int.lt_or_le q beg with h | h
      · exfalso
        rcases h2 with h2 | h2
        · have h3 : k * q ≤ k * (-1) := Int.mul_le_mul_of_nonneg_left (by lia) (by lia)
          lia
        · have h3 : k * q ≤ k * ((beg : Int) - 1) := Int.mul_le_mul_of_nonneg_left (by lia) (by lia)
          lia
      · exact h
    have hy : y = f + k * beg + ((q - beg).toNat : Int) * k := by
      rw [Int.toNat_of_nonneg (by lia), Int.mul_comm (q - beg) k, Int.mul_sub]; lia
    refine ⟨(q - beg).toNat, ?_, hy.symm⟩
    have hnn := Int.mul_nonneg (Int.natCast_nonneg (q - beg).toNat) (show 0 ≤ k by lia)
    rw [List.mem_range, if_pos (by lia)]
    have hle : ((q - beg).toNat : Int) ≤ (x + b + 1 - (f + k * beg) - 1) / k := Int.le_ediv_of_mul_le (by lia) (by lia)
    lia
theorem far_size {f k x b : Int} {beg : Nat} (hk : 1 ≤ k) (hb : 0 ≤ b) (h1 : x < f + k * beg) : (Builtin.Range.rangeSize (f + k * beg) (x + b + 1) k).toNat ≤ b.toNat ∧ 0 ≤ Builtin.Range.rangeSize (f + k * beg) (x + b + 1) k := by
  have hsz : Builtin.Range.rangeSize (f + k * beg) (x + b + 1) k = if f + k * beg < x + b + 1 then (x + b + 1 - (f + k * beg) - 1) / k + 1 else 0 := by
    unfold Builtin.Range.rangeSize
    rw [if_pos (by lia)]
  rw [hsz]
  generalize f + k * (beg : Int) = st at *
  split
  · rename_i h
    have e1 : 0 ≤ x + b + 1 - st - 1 := by lia
    have e2 : (x + b + 1 - st - 1) / k ≤ x + b + 1 - st - 1 := Int.ediv_le_self _ e1
    have e3 : 0 ≤ (x + b + 1 - st - 1) / k := Int.ediv_nonneg e1 (by lia)
    lia
  · lia
end RS
end PartL8

theorem RS.forgetL9 {prog : PySem.Program} {w : PySem.World} {A : PySem.Around} {env : PySem.Env} {Q : PySem.Flow → PySem.Shared → Prop} {E : PySem.Value → PySem.Shared → Prop} {s : PySem.Shared}
    (h : PySem.wpAny (PySem.model prog w) A (PySem.execs [] env) Q E s) : PySem.wpAny (PySem.model prog w) A (PySem.execs [] env) Q E s := by
  first | (walk1; fail "no") | skip
  w_top off
  exact h

section PartL9
open PySem PySem.W PyProof.Rows PySem.Calls
set_option Elab.async false
set_option maxRecDepth 100000
namespace RS
section
variable {prog : Program} {w : World} {E : Value → Shared → Prop} {s : Shared} {env : Env} {M : Str → Option Value}
local macro_rules | `(tactic| walk_at "eval Name") => `(tactic| (refine Stop.of ?_))
local macro_rules | `(tactic| walk_at "binaryOp Mult int int") => `(tactic| (k_here; refine mulS (by omega) ?_))
set_option maxHeartbeats 400000 in
theorem lam_lin {d : Nat} {f : Option (List Env)} {g : Option (List Code)} {u : Nat} {Q : Value → Shared → Prop} {p1 p2 p3 p4 p5 : Pos} {a k v : Int} {ta tk tv : Tok} {da dk : Addr}
    (V : Vw env s.heap M) (hkf : env.scope.kind = .function) (a1 : env.kindOf (Str.ofString "first") = some .free) (b1 : env.cells.lookup (Str.ofString "first") = some da) (e1 : M (Str.ofString "first") = some (.int a ta))
    (a2 : env.kindOf (Str.ofString "step") = some .free) (b2 : env.cells.lookup (Str.ofString "step") = some dk) (e2 : M (Str.ofString "step") = some (.int k tk))
    (a3 : env.kindOf (Str.ofString "turn") = some .local) (b3 : env.cells.lookup (Str.ofString "turn") = none) (e3 : M (Str.ofString "turn") = some (.int v tv))
    (hv : 0 ≤ v ∧ v < 1000) (hQ : ∀ t tk, Q (.int (a + k * v) t) { s with toks := tk }) :
    wpAny (model prog w) ⟨none, d, f, g, u⟩ (eval (.BinOp (.Name "first" p1) .Add (.BinOp (.Name "step" p2) .Mult (.Name "turn" p3) p4) p5) env) Q E s := by
  k_steps
  refine Stop.go ?_
  refine Vw.loadF V hkf a1 b1 e1 ?_
  k_steps
  refine Stop.go ?_
  refine Vw.loadF V hkf a2 b2 e2 ?_
  k_steps
  refine Stop.go ?_
  refine Vw.loadL V hkf a3 e3 ?_
  k_steps
  exact hQ _ _
end
end RS
end PartL9

theorem RS.forgetRG {prog : PySem.Program} {w : PySem.World} {A : PySem.Around} {env : PySem.Env} {Q : PySem.Flow → PySem.Shared → Prop} {E : PySem.Value → PySem.Shared → Prop} {s : PySem.Shared}
    (h : PySem.wpAny (PySem.model prog w) A (PySem.execs [] env) Q E s) : PySem.wpAny (PySem.model prog w) A (PySem.execs [] env) Q E s := by
  first | (walk1; fail "no") | skip
  w_top off
  exact h

section PartRG
open PySem PySem.W PyProof.Rows PySem.Calls
set_option Elab.async false
set_option maxRecDepth 100000
namespace RS
theorem range_len_1 (r : Addr) (a b c : Int) (t u v : Tok) (hc0 : ¬ Builtin.Range.rangeSize a b c ≥ 2 ^ 63) :
    Meets (Builtin.«range.__len__» ⟨[.ref r], []⟩) (fun _ R s => s.heap.get? r = some { cls := .type "range", dict := none, data := .fields #[.int a t, .int b u, .int c v], slots := #[] } ∧ R (.ok (.ret (Value.int (Builtin.Range.rangeSize a b c) s.toks))) { s with toks := s.toks + 1 }) :=
  .of_wp fun prog w A R s h => by obtain ⟨hp, g, d, tk, os⟩ := s; obtain ⟨hl, h⟩ := h; wp_walk; rw [if_neg hc0]; wp_walk; exact ⟨_, rfl, h⟩
theorem range_item_1 (r : Addr) (a b c : Int) (t u v : Tok) (k : Int) (tk : Tok) (h0 : ¬ k < 0) (hc0 : ¬ k ≥ Builtin.Range.rangeSize a b c) :
    Meets (Builtin.«range.__getitem__» ⟨[.ref r, .int k tk], []⟩) (fun _ R s => s.heap.get? r = some { cls := .type "range", dict := none, data := .fields #[.int a t, .int b u, .int c v], slots := #[] } ∧ R (.ok (.ret (Value.int (a + k * c) s.toks))) { s with toks := s.toks + 1 }) :=
  .of_wp fun prog w A R s h => by obtain ⟨hp, g, d, tk, os⟩ := s; obtain ⟨hl, h⟩ := h; wp_walk; refine wpAny_of_eq F.slot_int_index.lookup ?_; simp only [Option.isNone_some, Bool.false_eq_true, if_false]; refine wpAny_bind (wpAny_pure ?_); simp only [h0, hc0, if_false, decide_false, Bool.or_self, Bool.false_eq_true]; wp_walk; exact ⟨_, rfl, h⟩
section
variable {prog : Program} {w : World} {A : Around} {E : Value → Shared → Prop} {s : Shared}
theorem call_len_range {r : Addr} {a b c : Int} {t u v : Tok} {Q : Value → Shared → Prop} (hr : IsRange s.heap r a b c t u v) (h0 : 0 ≤ Builtin.Range.rangeSize a b c) (hfit : Builtin.Range.rangeSize a b c < 2 ^ 63)
    (h : ∀ t' tk, Q (.int (Builtin.Range.rangeSize a b c) t') { s with toks := tk }) : wpAny (model prog w) A (call (.builtin "len") [.ref r]) Q E s := by
  have hT : s.TypeIs (.ref r) "range" := ⟨_, hr, rfl⟩
  refine call_function_entry kind_len plain_len entry_len (args_len1 _) ?_
  unfold Builtin.«len»
  refine wpAny_bind (m := oneArg "len" _) (wpAny_pure ?_)
  refine wpAny_bind (m := callSpecial? (.ref r) (Str.ofString "__len__")) (wpAny_callSpecial?_slot (name := Str.ofString "__len__") hT F.slot_range_len
    (call_meets F.slot_range_len hT F.entry_range_len (F.args_range_len_1 _) (range_len_1 r a b c t u v (by lia)) ⟨hr, ?_⟩))
  refine wpAny_bind (wpAny_holding (wpAny_pure ?_))
  refine wpAny_bind (wpAny_letGo ?_)
  show wpAny _ _ (if Builtin.Range.rangeSize a b c < 0 then _ else _) _ _ _
  rw [if_neg (by lia)]
  show wpAny _ _ (if Builtin.Range.rangeSize a b c ≥ 2 ^ 63 then _ else _) _ _ _
  rw [if_neg (by lia)]
  exact wpAny_bind (wpAny_mkInt (wpAny_pure ⟨_, rfl, h _ _⟩))
theorem item_range {value slice : PySem.Expr} {r : Addr} {a b c k : Int} {t u v tk : Tok} {Q : Value → Shared → Prop} (hr : IsRange s.heap r a b c t u v) (h0 : 0 ≤ k) (h1 : k < Builtin.Range.rangeSize a b c)
    (h : ∀ t' tk', Q (.int (a + k * c) t') { s with toks := tk' })
    (hs : subscripted slice false (.ref r) (.int k tk) = operate [.ref r, .int k tk] (getItem (.ref r) (.int k tk)) := by with_unfolding_all rfl) (hg : ∀ z, letTemporaryGo value (.ref r) z = pure () := by intro _; with_unfolding_all rfl) :
    wpAny (model prog w) A (subscriptTail value slice (.ref r) (.int k tk)) Q E s := by
  have hT : s.TypeIs (.ref r) "range" := ⟨_, hr, rfl⟩
  refine subscriptTail_builtin hT F.slot_range_getitem.lookup ?_ hs hg
  unfold getItem
  try with_reducible refine wpAny_holding ?_
  first | refine wpAny_bind (wpAny_pure ?_) | skip
  refine wpAny_bind (wpAny_sequenceKey hT (by decide) ?_)
  refine wpAny_bind (wpAny_callSpecial?_slot (name := Str.ofString "__getitem__") hT F.slot_range_getitem
    (call_meets F.slot_range_getitem hT F.entry_range_getitem (F.args_range_getitem_2 _ _) (range_item_1 r a b c t u v k tk (by lia) (by lia)) ⟨hr, ?_⟩))
  exact wpAny_pure (h _ _)
end
end RS
end PartRG

theorem RS.forgetK1 {prog : PySem.Program} {w : PySem.World} {A : PySem.Around} {env : PySem.Env} {Q : PySem.Flow → PySem.Shared → Prop} {E : PySem.Value → PySem.Shared → Prop} {s : PySem.Shared}
    (h : PySem.wpAny (PySem.model prog w) A (PySem.execs [] env) Q E s) : PySem.wpAny (PySem.model prog w) A (PySem.execs [] env) Q E s := by
  first | (walk1; fail "no") | skip
  w_top off
  exact h

section PartK1
open PySem PySem.W PyProof.Rows PySem.Calls
set_option Elab.async false
set_option maxRecDepth 100000
namespace RS
theorem fillK1 : (fun (_ : Params → Frag) (_ : OpenLaw) => True) hd.heap_1 PySem.Challenge.rw_rs0192_01 := by
  k_fill
  trivial
local macro_rules | `(tactic| walk_at $k:str) => if ["exec While Compare cons nil", "KswEnd", "call ref", "subscriptTail"].contains k.getString then `(tactic| (refine Stop.of ?_)) else Lean.Macro.throwUnsupported
namespace Bl
abbrev V : Type := (World) × (Nat) × (Option (List Env)) × (Option (List Code)) × (Nat) × (Shared) × (Program) × (List Str) × (ExcName → Option Value) × (Str → Option Value) × (Str → Option Value) × (Heap) × (Result → Shared → Prop) × (Addr) × (Addr) × (Nat) × (Int) × (Tok) × (Tok) × (Tok) × (Tok) × (Nat → Int) × (Obj) × (FuncData)
def Stmt (w : World) (dA : Nat) (fA : Option (List Env)) (gA : Option (List Code)) (uA : Nat) (s : Shared) (p : Program) (loose : List Str) (mean : ExcName → Option Value) (mg : Str → Option Value) (mb : Str → Option Value) (g : Heap) (R : Result → Shared → Prop) (r : Addr) (lam : Addr) (n : Nat) (x : Int) (tx : Tok) (t0 : Tok) (u0 : Tok) (v0 : Tok) (φ : Nat → Int) (oL : Obj) (fdL : FuncData) : Prop := ∀ (X : (hd.heap_1 w.params).In g) (T : Top p loose mean mg mb g) (hk : ∀ b o, g.get? b = some o → s.heap.get? b = some o) (hroom : dA + 10 < recursionLimit) (hlam : ∀ (A' : Around) (s' : Shared) (v : Nat) t Q' E', A'.handled = none → A'.depth + 5 < recursionLimit → (∀ b o, s.heap.get? b = some o → s'.heap.get? b = some o) → v < n →
      (∀ t' h' tk, (∀ b o, s'.heap.get? b = some o → h'.get? b = some o) → Q' (.int (φ v) t') { s' with heap := h', toks := tk }) → wpAny (model PG w) A' (call (.ref lam) [.int (v : Int) t]) Q' E' s') (hlo : s.heap.get? lam = some oL ∧ oL.data = .func fdL) (hst : Steps (fun y => decide (y < x)) ((List.range n).map φ)) (hr : IsRange s.heap r 0 (n : Int) 1 t0 u0 v0) (hn : n ≤ 1000) (h : ∀ t h' tk, (∀ b o, s.heap.get? b = some o → h'.get? b = some o) → R (.ok (.ret (.int (((List.range n).map φ).countP (fun y => decide (y < x)) : Int) t))) { s with heap := h', toks := tk }),
    codeAny (model PG w) (Around.mk none dA fA gA uA) (.call (.ref 71) ⟨[.ref r, .int x tx], [("key", .ref lam)]⟩) R s
theorem ne : Nonempty V := ⟨((Classical.choice neW), 0, none, none, 0, {}, default, [], (fun _ => none), (fun _ => none), (fun _ => none), {}, (fun _ _ => True), 0, 0, 0, 0, 0, 0, 0, 0, default, { cls := .none, data := .fields #[] }, default)⟩
noncomputable def c : V := pick ne fun v => Stmt v.1 v.2.1 v.2.2.1 v.2.2.2.1 v.2.2.2.2.1 v.2.2.2.2.2.1 v.2.2.2.2.2.2.1 v.2.2.2.2.2.2.2.1 v.2.2.2.2.2.2.2.2.1 v.2.2.2.2.2.2.2.2.2.1 v.2.2.2.2.2.2.2.2.2.2.1 v.2.2.2.2.2.2.2.2.2.2.2.1 v.2.2.2.2.2.2.2.2.2.2.2.2.1 v.2.2.2.2.2.2.2.2.2.2.2.2.2.1 v.2.2.2.2.2.2.2.2.2.2.2.2.2.2.1 v.2.2.2.2.2.2.2.2.2.2.2.2.2.2.2.1 v.2.2.2.2.2.2.2.2.2.2.2.2.2.2.2.2.1 v.2.2.2.2.2.2.2.2.2.2.2.2.2.2.2.2.2.1 v.2.2.2.2.2.2.2.2.2.2.2.2.2.2.2.2.2.2.1 v.2.2.2.2.2.2.2.2.2.2.2.2.2.2.2.2.2.2.2.1 v.2.2.2.2.2.2.2.2.2.2.2.2.2.2.2.2.2.2.2.2.1 v.2.2.2.2.2.2.2.2.2.2.2.2.2.2.2.2.2.2.2.2.2.1 v.2.2.2.2.2.2.2.2.2.2.2.2.2.2.2.2.2.2.2.2.2.2.1 v.2.2.2.2.2.2.2.2.2.2.2.2.2.2.2.2.2.2.2.2.2.2.2
@[irreducible] noncomputable def w : World := c.1
@[irreducible] noncomputable def dA : Nat := c.2.1
@[irreducible] noncomputable def fA : Option (List Env) := c.2.2.1
@[irreducible] noncomputable def gA : Option (List Code) := c.2.2.2.1
@[irreducible] noncomputable def uA : Nat := c.2.2.2.2.1
@[irreducible] noncomputable def s : Shared := c.2.2.2.2.2.1
@[irreducible] noncomputable def p : Program := c.2.2.2.2.2.2.1
@[irreducible] noncomputable def loose : List Str := c.2.2.2.2.2.2.2.1
@[irreducible] noncomputable def mean : ExcName → Option Value := c.2.2.2.2.2.2.2.2.1
@[irreducible] noncomputable def mg : Str → Option Value := c.2.2.2.2.2.2.2.2.2.1
@[irreducible] noncomputable def mb : Str → Option Value := c.2.2.2.2.2.2.2.2.2.2.1
@[irreducible] noncomputable def g : Heap := c.2.2.2.2.2.2.2.2.2.2.2.1
@[irreducible] noncomputable def R : Result → Shared → Prop := c.2.2.2.2.2.2.2.2.2.2.2.2.1
@[irreducible] noncomputable def r : Addr := c.2.2.2.2.2.2.2.2.2.2.2.2.2.1
@[irreducible] noncomputable def lam : Addr := c.2.2.2.2.2.2.2.2.2.2.2.2.2.2.1
@[irreducible] noncomputable def n : Nat := c.2.2.2.2.2.2.2.2.2.2.2.2.2.2.2.1
@[irreducible] noncomputable def x : Int := c.2.2.2.2.2.2.2.2.2.2.2.2.2.2.2.2.1
@[irreducible] noncomputable def tx : Tok := c.2.2.2.2.2.2.2.2.2.2.2.2.2.2.2.2.2.1
@[irreducible] noncomputable def t0 : Tok := c.2.2.2.2.2.2.2.2.2.2.2.2.2.2.2.2.2.2.1
@[irreducible] noncomputable def u0 : Tok := c.2.2.2.2.2.2.2.2.2.2.2.2.2.2.2.2.2.2.2.1
@[irreducible] noncomputable def v0 : Tok := c.2.2.2.2.2.2.2.2.2.2.2.2.2.2.2.2.2.2.2.2.1
@[irreducible] noncomputable def φ : Nat → Int := c.2.2.2.2.2.2.2.2.2.2.2.2.2.2.2.2.2.2.2.2.2.1
@[irreducible] noncomputable def oL : Obj := c.2.2.2.2.2.2.2.2.2.2.2.2.2.2.2.2.2.2.2.2.2.2.1
@[irreducible] noncomputable def fdL : FuncData := c.2.2.2.2.2.2.2.2.2.2.2.2.2.2.2.2.2.2.2.2.2.2.2
set_option maxHeartbeats 4000000 in
theorem spec_c : Stmt w dA fA gA uA s p loose mean mg mb g R r lam n x tx t0 u0 v0 φ oL fdL := by
  intro X T hk hroom hlam hlo hst hr hn h
  refine' enterC (K := hd.heap_1 w.params) X T hk (binds := [("a", .ref r), ("x", .int x tx), ("lo", .int 0 259), ("hi", .none), ("key", .ref lam)]) ?ho ?hcd ?hroom ?hb ?hloc ?c1 ?c2 ?c3 ?c4 ?_
  case ho => k_is
  case hcd => k_is
  case hroom => dsimp only; lia
  case hb => exact bindsTo_peek (X.keeps hk) (fun S => by kernel_rfl)
  case hloc => exact locs rfl
  case c1 => exact rfl
  case c2 => exact rfl
  case c3 => exact rfl
  case c4 => decide
  intro h₁ hns hk₁
  have F : Fr s.heap s.heap.objs.size h₁ _ := ⟨hns, hk₁, Nat.le_refl _⟩
  have N : News s.heap s.heap.objs.size h₁ [] := News.nil
  have X' := X.keeps hk
  have T' := T.keeps hk
  clear hns hk₁ X T
  k_steps
  rename Fr _ _ _ _ => F1
  have hsz : Builtin.Range.rangeSize 0 (n : Int) 1 = (n : Int) := by rw [rangeSize_one]; split <;> lia
  refine call_len_range (F1.keep r _ hr) (by rw [hsz]; lia) (by rw [hsz]; lia) fun t1 tk1 => ?_
  rw [hsz]
  k_steps
  unfold Stop
  rename_i F' N'
  have hlen : ((List.range n).map φ).length = n := by simp
  refine' ksw_while (fun _ => []) (fun c : Int × Int × Nat × Nat => [("lo", .int c.1 c.2.2.1), ("hi", .int c.2.1 c.2.2.2)]) (fun _ => True) ["mid"] (fun c => BInv (fun y => decide (y < x)) ((List.range n).map φ) c.1 c.2.1) (fun c => (c.2.1 - c.1).toNat) (0, ?z1, ?z2, ?z3) F' N' trivial ?hk (BInv.start _ _ hlen.symm) ?turn PassesOwn.never
  case hk => kst_all
  case turn =>
    rintro ⟨lo, hi', t1, t2⟩ kU kH kTk _ hI kF kN
    simp only [kstB] at kF
    dsimp only at hI kF ⊢
    have hI' := hI
    obtain ⟨b1, b2, b3, _, _⟩ := hI'
    rw [hlen] at b3
    k_steps
    · rename Fr _ _ _ _ => F2
      rename News _ _ _ _ => N2
      refine callWith_def (o := oL) (fd := fdL) hlo.2 ?_
      k_steps
      have hmid := mid_in (show lo < hi' by assumption)
      refine Stop.of ?_
      rename Fr _ _ _ _ => F3
      refine item_range (F3.keep r _ hr) (by lia) (by rw [hsz]; lia) fun t4 tk4 => ?_
      have c1 : lo < hi' := by assumption
      have hgd : ((List.range n).map φ).getD ((lo + hi').fdiv 2).toNat 0 = φ ((lo + hi').fdiv 2).toNat := by
        rw [List.getD_eq_getElem?_getD, List.getElem?_map, List.getElem?_range (by lia)]
        rfl
      k_steps
      · exact F3.keep _ _ hlo.1
      refine Stop.of ?_
      have e1 : 0 + (lo + hi').fdiv 2 * 1 = ((((lo + hi').fdiv 2).toNat : Nat) : Int) := by lia
      rw [e1]
      refine hlam _ _ _ _ _ _ rfl (by show dA + 1 + 5 < _; lia) F3.keep (by lia) fun t5 h5 tk5 k5 => ?_
      have F5 := F3.keeps k5
      have N5 : News s.heap s.heap.objs.size h5 [] := News.nil
      clear F3 N2
      k_steps
      · have c2 : φ ((lo + hi').fdiv 2).toNat < x := by assumption
        rename Fr _ _ _ _ => F9
        rename News _ _ _ _ => N9
        unfold Stop
        exact ksw_end (_, _, _, _) F9 N9 (fun _ h => nomatch h) trivial (by kst_all) (by ksw_same) (hI.up c1 hst (by rw [hgd]; exact decide_eq_true c2)) (by exact meas_up c1)
      · have c2 : ¬ φ ((lo + hi').fdiv 2).toNat < x := by assumption
        rename Fr _ _ _ _ => F9
        rename News _ _ _ _ => N9
        unfold Stop
        exact ksw_end (_, _, _, _) F9 N9 (fun _ h => nomatch h) trivial (by kst_all) (by ksw_same) (hI.down c1 hst (by rw [hgd]; exact decide_eq_false c2)) (by exact meas_down c1)
    · have c1 : ¬ lo < hi' := by assumption
      dsimp only
      rw [hI.done c1]
      exact h _ _ _ kF.keep
theorem all : Stmt c.1 c.2.1 c.2.2.1 c.2.2.2.1 c.2.2.2.2.1 c.2.2.2.2.2.1 c.2.2.2.2.2.2.1 c.2.2.2.2.2.2.2.1 c.2.2.2.2.2.2.2.2.1 c.2.2.2.2.2.2.2.2.2.1 c.2.2.2.2.2.2.2.2.2.2.1 c.2.2.2.2.2.2.2.2.2.2.2.1 c.2.2.2.2.2.2.2.2.2.2.2.2.1 c.2.2.2.2.2.2.2.2.2.2.2.2.2.1 c.2.2.2.2.2.2.2.2.2.2.2.2.2.2.1 c.2.2.2.2.2.2.2.2.2.2.2.2.2.2.2.1 c.2.2.2.2.2.2.2.2.2.2.2.2.2.2.2.2.1 c.2.2.2.2.2.2.2.2.2.2.2.2.2.2.2.2.2.1 c.2.2.2.2.2.2.2.2.2.2.2.2.2.2.2.2.2.2.1 c.2.2.2.2.2.2.2.2.2.2.2.2.2.2.2.2.2.2.2.1 c.2.2.2.2.2.2.2.2.2.2.2.2.2.2.2.2.2.2.2.2.1 c.2.2.2.2.2.2.2.2.2.2.2.2.2.2.2.2.2.2.2.2.2.1 c.2.2.2.2.2.2.2.2.2.2.2.2.2.2.2.2.2.2.2.2.2.2.1 c.2.2.2.2.2.2.2.2.2.2.2.2.2.2.2.2.2.2.2.2.2.2.2 := by
  have h := spec_c
  unfold w dA fA gA uA s p loose mean mg mb g R r lam n x tx t0 u0 v0 φ oL fdL at h
  exact h
end Bl
theorem bl_key {w : World} {A : Around} {s : Shared} {p : Program} {loose : List Str} {mean : ExcName → Option Value} {mg mb : Str → Option Value} {g : Heap}
    {R : Result → Shared → Prop} {r lam : Addr} {n : Nat} {x : Int} {tx t0 u0 v0 : Tok} {φ : Nat → Int} {oL : Obj} {fdL : FuncData}
    (X : (hd.heap_1 w.params).In g) (T : Top p loose mean mg mb g) (hk : ∀ b o, g.get? b = some o → s.heap.get? b = some o)
    (hh : A.handled = none) (hroom : A.depth + 10 < recursionLimit) (hlam : ∀ (A' : Around) (s' : Shared) (v : Nat) t Q' E', A'.handled = none → A'.depth + 5 < recursionLimit → (∀ b o, s.heap.get? b = some o → s'.heap.get? b = some o) → v < n →
      (∀ t' h' tk, (∀ b o, s'.heap.get? b = some o → h'.get? b = some o) → Q' (.int (φ v) t') { s' with heap := h', toks := tk }) → wpAny (model PG w) A' (call (.ref lam) [.int (v : Int) t]) Q' E' s')
    (hlo : s.heap.get? lam = some oL ∧ oL.data = .func fdL) (hst : Steps (fun y => decide (y < x)) ((List.range n).map φ)) (hr : IsRange s.heap r 0 (n : Int) 1 t0 u0 v0) (hn : n ≤ 1000)
    (h : ∀ t h' tk, (∀ b o, s.heap.get? b = some o → h'.get? b = some o) → R (.ok (.ret (.int (((List.range n).map φ).countP (fun y => decide (y < x)) : Int) t))) { s with heap := h', toks := tk }) :
    codeAny (model PG w) A (.call (.ref 71) ⟨[.ref r, .int x tx], [("key", .ref lam)]⟩) R s := by
  obtain ⟨hA, dA, fA, gA, uA⟩ := A
  dsimp only at hh
  subst hh
  exact of_pick Bl.ne (fun v => Bl.Stmt v.1 v.2.1 v.2.2.1 v.2.2.2.1 v.2.2.2.2.1 v.2.2.2.2.2.1 v.2.2.2.2.2.2.1 v.2.2.2.2.2.2.2.1 v.2.2.2.2.2.2.2.2.1 v.2.2.2.2.2.2.2.2.2.1 v.2.2.2.2.2.2.2.2.2.2.1 v.2.2.2.2.2.2.2.2.2.2.2.1 v.2.2.2.2.2.2.2.2.2.2.2.2.1 v.2.2.2.2.2.2.2.2.2.2.2.2.2.1 v.2.2.2.2.2.2.2.2.2.2.2.2.2.2.1 v.2.2.2.2.2.2.2.2.2.2.2.2.2.2.2.1 v.2.2.2.2.2.2.2.2.2.2.2.2.2.2.2.2.1 v.2.2.2.2.2.2.2.2.2.2.2.2.2.2.2.2.2.1 v.2.2.2.2.2.2.2.2.2.2.2.2.2.2.2.2.2.2.1 v.2.2.2.2.2.2.2.2.2.2.2.2.2.2.2.2.2.2.2.1 v.2.2.2.2.2.2.2.2.2.2.2.2.2.2.2.2.2.2.2.2.1 v.2.2.2.2.2.2.2.2.2.2.2.2.2.2.2.2.2.2.2.2.2.1 v.2.2.2.2.2.2.2.2.2.2.2.2.2.2.2.2.2.2.2.2.2.2.1 v.2.2.2.2.2.2.2.2.2.2.2.2.2.2.2.2.2.2.2.2.2.2.2) Bl.all (w, dA, fA, gA, uA, s, p, loose, mean, mg, mb, g, R, r, lam, n, x, tx, t0, u0, v0, φ, oL, fdL) X T hk hroom hlam hlo hst hr hn h
end RS
end PartK1

section PartLA
open PySem PySem.W PyProof.Rows PySem.Calls
set_option Elab.async false
set_option maxRecDepth 100000
namespace RS
section
variable {prog : Program} {w : World} {A : Around} {E : Value → Shared → Prop} {s : Shared} {g : Heap} {env : Env} {xs xs₁ xs₂ : List (Addr × Obj)} {G h h' : Heap} {m : Str → Option Value}
theorem slice3L {value slice : PySem.Expr} {l : Addr} {vs : List Value} {ns : List Int} {vl vu vk : Value} {lo hi st : Option Int} {ops : List Value} {Q : Value → Shared → Prop} (hl : s.heap.IsList l vs.toArray) (hi' : IntsAre vs ns) (pl : IsPart vl lo) (pu : IsPart vu hi) (pk : IsPart vk st) (h0 : st ≠ some 0)
    (h : ∀ D h' ws, Sub s.heap h' → s.heap.get? D = none → DL h' D ws → IntsAre ws (pickNums ns lo hi st) → Q (.ref D) { s with heap := h' }) (hsz : vs.length ≤ sizeLine)
    (hs : subscripted slice false (.ref l) (.ref s.heap.objs.size) = operate ops (getItem (.ref l) (.ref s.heap.objs.size)) := by with_unfolding_all rfl)
    (ht : ∀ r, letTemporaryGo value (.ref l) r = pure () := by intro _; with_unfolding_all rfl) :
    wpAny (model prog w) A (subscriptTail value slice (.ref l) (.ref s.heap.objs.size)) Q E { s with heap := s.heap.push { cls := .type "slice", data := .fields #[vl, vu, vk] } } := by
  refine subscriptTail_ops (Heap.IsList.typeIs (s := { s with heap := s.heap.push { cls := .type "slice", data := .fields #[vl, vu, vk] } }) (hl.push _)) list_getitem_lookup
    (wpAny_getItem_list_slice (hl.push _) (Heap.IsSliceOf.new ..) pl pu pk h0 ?_ (by simpa using hsz)) hs ht
  refine h _ _ (slicePick vs.toArray lo hi st).toList (fun b o q => Heap.get?_push_of_some _ (Heap.get?_push_of_some _ q)) (Heap.get?_none_of_le (by rw [Heap.size_push]; exact Nat.le_succ _)) ⟨0, ?_⟩ (hi'.pick _ _ _)
  exact Heap.get?_push_size _ rfl
theorem sumL {l : Addr} {vs : List Value} {ns : List Int} {Q : Value → Shared → Prop} (hh : A.handled = none) (hl : s.heap.IsList l vs.toArray) (hi : IntsAre vs ns)
    (h : ∀ h' tk t', Sub s.heap h' → Q (.int ns.sum t') { s with heap := h', toks := tk }) :
    wpAny (model prog w) A (call (.builtin "sum") [.ref l]) Q E s := by
  obtain ⟨xs, hx⟩ := hi.allInts.items
  have hn : (numsOf vs).sum = ns.sum := by rw [hi.numsOf]
  rw [hx] at hl
  refine sum_intListG hh hl fun h' tk t' hk => ?_
  have e : preSum (numAt xs) xs.size = ns.sum := by
    rw [← hn, show vs = vs.toArray.toList from rfl, hx, nums_intItems, preSum_eq, List.take_of_length_le (by simp)]
  rw [e]
  exact h h' tk t' hk
theorem minL {a b : Int} {t u : Tok} {Q : Value → Shared → Prop} (hh : A.handled = none)
    (h : ∀ h' tk t', Sub s.heap h' → Q (.int (min a b) t') { s with heap := h', toks := tk }) : wpAny (model prog w) A (call (.builtin "min") [.int a t, .int b u]) Q E s := by
  refine min_two_ints hh fun h' tk k => ?_
  by_cases hc : b < a
  · rw [if_pos hc]; have := h h' tk u k; rwa [Int.min_eq_right (by lia)] at this
  · rw [if_neg hc]; have := h h' tk t k; rwa [Int.min_eq_left (by lia)] at this
/-- a comprehension stored under a name with a cell -/
theorem FmB {elt target iter : PySem.Expr} {ifs : List PySem.Expr} {scope : Scope} {cl : List (Str × Addr)} {pos : Pos}
    {y : Str} {c : Addr} {py spos : Pos} {Q : Flow → Shared → Prop} (S : Fm g env xs G s.heap m) (hsw : swapsWith (.ListComp elt [⟨target, iter, ifs, 0⟩] scope pos) (some (.Name y py)) spos.line env = pure false)
    (hclos : closureFor scope env = pure cl) (hkind : scope.kind = .function) (ok : BlockOk scope env cl) (hke : env.scope.kind = .function) (hy : env.kindOf y = some .cell) (hcy : env.cells.lookup y = some c)
    (h : wpAny (model prog w) A (eval iter env) (fun xv s₁ => wpAny (model prog w) A (pyIter xv) (fun it s₂ => CRest prog w A elt target ifs scope cl env m (fun D s' => Sub s.heap s'.heap ∧ (∀ G' h' tk m', Fm g env xs G' h' m' → m' y = some (.ref D) → (∀ z, z ≠ y → m' z = m z) → Sub G G' →
      (∀ b o, s.heap.get? b = none → s'.heap.get? b = some o → G'.get? b = some o) → Q .next { s' with heap := h', toks := tk })) it s₂) E s₁) E s)
    (hs : ∀ x, foldedSetIterable iter env x = pure x := by intro _; rfl) :
    wpAny (model prog w) A (exec (.Assign [.Name y py] (.ListComp elt [⟨target, iter, ifs, 0⟩] scope pos) spos) env) Q E s := by
  rw [exec_Assign_Name _ _ _ _ _ hsw]
  refine wpAny_bind (wpAny_standAt (wpAny_bind (wpAny_mono (LC (m := m) (Q := fun v s' => ∃ D, v = .ref D ∧ Sub s.heap s'.heap ∧ (∀ G' h' tk m', Fm g env xs G' h' m' → m' y = some (.ref D) → (∀ z, z ≠ y → m' z = m z) → Sub G G' →
      (∀ b o, s.heap.get? b = none → s'.heap.get? b = some o → G'.get? b = some o) → Q .next { s' with heap := h', toks := tk })) hclos hkind ok (wpAny_mono h (fun xv s₁ h₁ => wpAny_mono h₁ (fun it s₂ h₂ => CRest.mono h₂ fun D s' q => ⟨D, rfl, q⟩) fun _ _ z => z) fun _ _ z => z) hs) (fun v s' q => ?_) fun _ _ z => z)))
  obtain ⟨D, rfl, k, q⟩ := q
  obtain ⟨G', S', a, b⟩ := S.up k
  refine wpAny_bind (wpAny_standAt (wpAny_bind (wpAny_bindName (S'.stC hke hy hcy fun h2 tk2 m2 S2 e2 f2 => ?_))))
  exact wpAny_pure (q G' h2 tk2 m2 S2 e2 f2 a b)
end
end RS
end PartLA

theorem RS.forgetLB {prog : PySem.Program} {w : PySem.World} {A : PySem.Around} {env : PySem.Env} {Q : PySem.Flow → PySem.Shared → Prop} {E : PySem.Value → PySem.Shared → Prop} {s : PySem.Shared}
    (h : PySem.wpAny (PySem.model prog w) A (PySem.execs [] env) Q E s) : PySem.wpAny (PySem.model prog w) A (PySem.execs [] env) Q E s := by
  first | (walk1; fail "no") | skip
  w_top off
  exact h

section PartLB
open PySem PySem.W PyProof.Rows PySem.Calls
set_option Elab.async false
set_option maxRecDepth 100000
namespace RS
section
variable {prog : Program} {w : World} {E : Value → Shared → Prop} {s : Shared} {env : Env} {M : Str → Option Value}
local macro_rules | `(tactic| walk_at $k:str) => if ["eval Name", "subscriptTail"].contains k.getString then `(tactic| (refine Stop.of ?_)) else Lean.Macro.throwUnsupported
set_option maxHeartbeats 400000 in
theorem lam_gap {d : Nat} {f : Option (List Env)} {g : Option (List Code)} {u : Nat} {Q : Value → Shared → Prop} {p1 p2 p3 p4 p5 p6 p7 : Pos} {v : Nat} {r : Int} {tv : Tok} {da R : Addr} {vs : List Value} {ns : List Int}
    (V : Vw env s.heap M) (hkf : env.scope.kind = .function) (a1 : env.kindOf (Str.ofString "row") = some .free) (b1 : env.cells.lookup (Str.ofString "row") = some da) (e1 : M (Str.ofString "row") = some (.ref R))
    (hR : s.heap.IsList R vs.toArray) (hi : IntsAre vs ns) (hn : ns[v]? = some r)
    (a3 : env.kindOf (Str.ofString "place") = some .local) (e3 : M (Str.ofString "place") = some (.int (v : Int) tv))
    (hv : v < 1000) (hQ : ∀ t tk, Q (.int (r - (v : Int) - 1) t) { s with toks := tk }) :
    wpAny (model prog w) ⟨none, d, f, g, u⟩ (eval (.BinOp (.BinOp (.Subscript (.Name "row" p1) (.Name "place" p2) p3) .Sub (.Name "place" p4) p5) .Sub (.Constant (.int 1) 0 p6) p7) env) Q E s := by
  have hvl : vs.length = ns.length := hi.length
  have hlt : v < vs.length := by rw [hvl]; exact (List.getElem?_eq_some_iff.mp hn).1
  obtain ⟨t0, ht0⟩ : ∃ t0, vs[v]? = some (.int r t0) := by
    obtain ⟨r', t', e1, e2⟩ := ints_at hi (List.getElem?_eq_getElem hlt)
    rw [hn] at e2
    cases e2
    exact ⟨t', by rw [List.getElem?_eq_getElem hlt, e1]⟩
  k_steps
  refine Stop.go ?_
  refine Vw.loadF V hkf a1 b1 e1 ?_
  k_steps
  refine Stop.go ?_
  refine Vw.loadL V hkf a3 e3 ?_
  k_steps
  refine Stop.go ?_
  refine Vw.loadL V hkf a3 e3 ?_
  have hgd : ns.getD ((v : Int)).toNat 0 = r := by rw [Int.toNat_natCast, List.getD_eq_getElem?_getD, hn]; rfl
  rw [hgd]
  k_steps
  exact hQ _ _
end
end RS
end PartLB

section PartC2
open PySem PySem.W PyProof.Rows PySem.Calls
set_option Elab.async false
set_option maxRecDepth 100000
namespace RS
section
variable {prog : Program} {w : World} {A : Around} {E : Value → Shared → Prop} {R : Result → Shared → Prop} {s : Shared}
abbrev twoComp (elt t1 i1 t2 i2 : PySem.Expr) (scope : Scope) (pos : Pos) : PySem.Expr := .ListComp elt [⟨t1, i1, [], 0⟩, ⟨t2, i2, [], 0⟩] scope pos
theorem turn_in (elt t1 i1 t2 i2 : PySem.Expr) (scope : Scope) (pos : Pos) (it acc : Value) (env : Env) :
    compTurn (twoComp elt t1 i1 t2 i2 scope pos) 1 it acc env = (do
      standAt i2.pos
      match ← pyNext it with
      | none => pure (.done .next)
      | some v =>
        letOwnedTupleGo t2 it v
        assign t2 env v
        (do let _ ← call (.builtin "list.append") [acc, ← eval elt env])
        again (.compLoop (twoComp elt t1 i1 t2 i2 scope pos) 1 it acc env)) := by rfl
theorem turn_out (elt t1 i1 t2 i2 : PySem.Expr) (scope : Scope) (pos : Pos) (it acc : Value) (env : Env) :
    compTurn (twoComp elt t1 i1 t2 i2 scope pos) 0 it acc env = (do
      standAt i1.pos
      match ← pyNext it with
      | none => pure (.done .next)
      | some v =>
        letOwnedTupleGo t1 it v
        assign t1 env v
        let x ← eval i2 env
        standAt i2.pos
        let x ← foldedSetIterable i2 env x
        let _ ← runOwn (.compStart (twoComp elt t1 i1 t2 i2 scope pos) 1 (← holding [x] (pyIter x)) acc env) env
        again (.compLoop (twoComp elt t1 i1 t2 i2 scope pos) 0 it acc env)) := by rfl
inductive InI (s : Shared) (I b D L : Addr) (ws ys0 : List Value) (n : Nat) (s' : Shared) : Prop
  | intro (i nn : Nat) (h : Heap) (tk : Nat) (m : Str → Option Value) (q0 : n + i = ws.length) (q1 : s' = { s with heap := h, toks := tk }) (q2 : h.IsListIter I b i) (q3 : h.get? D = some (listOf (ys0 ++ ws.take i).toArray nn)) (q4 : h.Ns L m)
    (q5 : ∀ c o, c ≠ D → c ≠ L → c ≠ I → s.heap.get? c = some o → h.get? c = some o)
inductive OutI (s : Shared) (I a D L : Addr) (rs : List Value) (nss : List (List Int)) (n : Nat) (s' : Shared) : Prop
  | intro (i nn : Nat) (ys : List Value) (h : Heap) (tk : Nat) (m : Str → Option Value) (q0 : n + i = rs.length) (q1 : s' = { s with heap := h, toks := tk }) (q2 : h.IsListIter I a i) (q3 : h.get? D = some (listOf ys.toArray nn)) (q4 : IntsAre ys (nss.take i).flatten) (q5 : h.Ns L m)
    (q6 : ∀ c o, c ≠ D → c ≠ L → c ≠ I → s.heap.get? c = some o → h.get? c = some o)
theorem in_loop (hh : A.handled = none) {y : Str} {py py2 : Pos} {t1 i1 i2 : PySem.Expr} {scope : Scope} {pos : Pos} {cenv : Env} (hk : cenv.scope.kind = .function) (hy : cenv.kindOf y = some .local) (hyd : (y == ("__debug__" : Str)) = false)
    {I b D : Addr} {ws ys0 : List Value} {nb n0 : Nat} {m0 : Str → Option Value} (hIb : b ≠ I) (hDI : D ≠ I) (hLI : cenv.locals ≠ I) (hDL : D ≠ cenv.locals) (hbD : b ≠ D) (hbL : b ≠ cenv.locals)
    (hit : s.heap.IsListIter I b 0) (hb : s.heap.get? b = some (listOf ws.toArray nb)) (hD : s.heap.get? D = some (listOf ys0.toArray n0)) (hn : s.heap.Ns cenv.locals m0) (hsz : ys0.length + ws.length ≤ sizeLine)
    (fin : ∀ h' tk nn m, h'.get? D = some (listOf (ys0 ++ ws).toArray nn) → h'.Ns cenv.locals m → (∀ c o, c ≠ D → c ≠ cenv.locals → c ≠ I → s.heap.get? c = some o → h'.get? c = some o) → R (.ok .next) { s with heap := h', toks := tk }) :
    codeAny (model prog w) A (.compLoop (twoComp (.Name y py) t1 i1 (.Name y py2) i2 scope pos) 1 (.ref I) (.ref D) cenv) R s := by
  refine codeAny_loop rfl (InI s I b D cenv.locals ws ys0) (fun n s' hI => ?_) ws.length ⟨0, n0, s.heap, s.toks, m0, by lia, rfl, hit, by simpa using hD, hn, fun _ _ _ _ _ e => e⟩
  obtain ⟨i, nn, h, tk, m, hni, rfl, it, hd, hm, keep⟩ := hI
  have hbh := keep b _ hbD hbL hIb hb
  show wpAny _ A ((compTurn _ _ _ _ _).onRaise (fun x => do noteFrame x cenv; theTreesLotGoes x)) _ _ _
  refine wpAny_noted ?_
  rw [turn_in]
  refine wpAny_bind (wpAny_standAt ?_)
  by_cases hi : i < ws.length
  · refine wpAny_bind ((Walks.list (prog := prog) (w := w) hh I b hIb ws.toArray).item i _ _ _ (by simpa using hi) ⟨it, _, hbh, rfl, nb, rfl⟩ fun v h1 tk1 hv st1 k1 => ?_)
    have k1' : ∀ c o, c ≠ I → h.get? c = some o → h1.get? c = some o := fun c o q e => k1 c o (by simpa using q) e
    dsimp only
    refine wpAny_bind (wpAny_of_eq (rfl : letOwnedTupleGo _ _ _ = pure ()) ?_)
    refine wpAny_bind (wpAny_assign_Name (wpAny_storeName_local hy (hm.at' fun o e => k1' _ o hLI e) (fun h2 hn2 hs2 => ?_) (by rw [hk]; rfl)))
    have k2 : ∀ c o, c ≠ cenv.locals → h1.get? c = some o → h2.get? c = some o := fun c o q e => hs2.extBut c o q e
    refine wpAny_bind (wpAny_bind (wpAny_Name (wpAny_loadName_local hk hy hn2 (if_pos rfl) ?_) hyd))
    refine wpAny_bind (append_at (k2 _ _ hDL (k1' _ _ hDI hd)) (fun h3 hs3 hd3 => ?_) (by simp only [List.size_toArray, List.length_append, List.length_take]; lia))
    have k3 : ∀ c o, c ≠ D → h2.get? c = some o → h3.get? c = some o := fun c o q e => hs3.extBut c o q e
    refine wpAny_pure (wpAny_pure ⟨rfl, n - 1, by lia, i + 1, nn + 1, h3, _, _, by lia, rfl, st1.1.at fun o e => k3 _ o (Ne.symm hDI) (k2 _ o (Ne.symm hLI) e), ?_, hn2.at' fun o e => k3 _ o (Ne.symm hDL) e, fun c o c1 c2 c3 e => k3 c o c1 (k2 c o c2 (k1' c o c3 (keep c o c1 c2 c3 e)))⟩)
    rw [List.push_toArray] at hd3
    have e : ws[i]? = some v := by simpa using hv
    rw [List.take_add_one, e]
    simpa [List.append_assoc] using hd3
  · have hil : i = ws.length := by lia
    refine wpAny_bind ((Walks.list (prog := prog) (w := w) hh I b hIb ws.toArray).done _ _ _ ⟨by rw [List.size_toArray, ← hil]; exact it, _, hbh, rfl, nb, rfl⟩ fun h1 tk1 k1 => ?_)
    have k1' : ∀ c o, c ≠ I → h.get? c = some o → h1.get? c = some o := fun c o q e => k1 c o (by simpa using q) e
    dsimp only
    refine wpAny_pure (fin h1 tk1 nn m ?_ (hm.at' fun o e => k1' _ o hLI e) fun c o c1 c2 c3 e => k1' c o c3 (keep c o c1 c2 c3 e))
    rw [List.take_of_length_le (by lia)] at hd
    exact k1' _ _ hDI hd
theorem start_in {elt t1 i1 t2 i2 : PySem.Expr} {scope : Scope} {pos : Pos} {it acc : Value} {env : Env}
    (h0 : codeAny (model prog w) A (.compLoop (twoComp elt t1 i1 t2 i2 scope pos) 1 it acc env) R s)
    (h : wpAny (model prog w) A (pyIter it) (fun it' s' => codeAny (model prog w) A (.compLoop (twoComp elt t1 i1 t2 i2 scope pos) 1 it' acc env) R s') (fun _ _ => False) s) :
    codeAny (model prog w) A (.compStart (twoComp elt t1 i1 t2 i2 scope pos) 1 it acc env) R s := by
  refine codeAny_of_tree ?_
  show wpAny _ _ ((compStart (twoComp elt t1 i1 t2 i2 scope pos) 1 it acc env).onRaise (fun x => do noteFrame x env; standAt theWindowsPlace)) _ _ s
  refine wpAny_notedAt ?_
  unfold compStart
  show wpAny _ _ (ask >>= _) _ _ s
  refine wpAny_bind (wpAny_askSetting (wpAny_ite ?_))
  split
  · first
      | exact wpAny_bind (wpAny_pure (wpAny_pure (And.intro rfl h0)))
      | exact wpAny_pure (And.intro rfl h0)
  · exact wpAny_bind (wpAny_rule (wpAny_bind (wpAny_standAt (wpAny_bind (wpAny_mono h (fun it' s' h' => wpAny_pure (And.intro rfl h')) fun _ _ x => x.elim)))))

/-- a list of lists of ints -/
def Rows2 (h : Heap) (rs : List Value) (nss : List (List Int)) : Prop := rs.length = nss.length ∧ ∀ (i : Nat) (v : Value), rs[i]? = some v → ∃ (b : Addr) (ws : List Value) (nb : Nat) (ns : List Int), v = .ref b ∧ h.get? b = some (listOf ws.toArray nb) ∧ nss[i]? = some ns ∧ IntsAre ws ns

end
namespace Noutloop
abbrev V : Type := (Program) × (World) × (Around) × (Result → Shared → Prop) × (Shared) × (Str) × (Str) × (Pos) × (Pos) × (Pos) × (Pos) × (PySem.Expr) × (Scope) × (Pos) × (Env) × (Addr) × (Addr) × (Addr) × (List Value) × (List (List Int)) × (Nat) × (Str → Option Value)
def Say (prog : Program) (w : World) (A : Around) (R : Result → Shared → Prop) (s : Shared) (x : Str) (y : Str) (px : Pos) (px2 : Pos) (py : Pos) (py2 : Pos) (i1 : PySem.Expr) (scope : Scope) (pos : Pos) (cenv : Env) (I : Addr) (a : Addr) (D : Addr) (rs : List Value) (nss : List (List Int)) (na : Nat) (m0 : Str → Option Value) : Prop := ∀ (hh : A.handled = none) (hk : cenv.scope.kind = .function) (hx : cenv.kindOf x = some .local) (hy : cenv.kindOf y = some .local) (hxd : (x == ("__debug__" : Str)) = false) (hyd : (y == ("__debug__" : Str)) = false) (hIa : a ≠ I) (hDI : D ≠ I) (hLI : cenv.locals ≠ I) (hDL : D ≠ cenv.locals) (haD : a ≠ D) (haL : a ≠ cenv.locals) (hit : s.heap.IsListIter I a 0) (ha : s.heap.get? a = some (listOf rs.toArray na)) (hD : s.heap.get? D = some (listOf #[] 0)) (hn : s.heap.Ns cenv.locals m0) (hsz : nss.flatten.length ≤ sizeLine) (hrs : Rows2 s.heap rs nss) (hrb : ∀ b, Value.ref b ∈ rs → b ≠ D ∧ b ≠ cenv.locals ∧ b ≠ I) (fin : ∀ h' tk nn ys m, h'.get? D = some (listOf ys.toArray nn) → IntsAre ys nss.flatten → h'.Ns cenv.locals m → (∀ c o, c ≠ D → c ≠ cenv.locals → c ≠ I → s.heap.get? c = some o → h'.get? c = some o) → R (.ok .next) { s with heap := h', toks := tk }),
    codeAny (model prog w) A (.compLoop (twoComp (.Name y py) (.Name x px) i1 (.Name y py2) (.Name x px2) scope pos) 0 (.ref I) (.ref D) cenv) R s
theorem ne : Nonempty V := ⟨(default, (Classical.choice neW), {}, (fun _ _ => True), {}, default, default, default, default, default, default, default, default, default, default, 0, 0, 0, [], [], 0, (fun _ => none))⟩
noncomputable def c : V := pick ne fun v => Say v.1 v.2.1 v.2.2.1 v.2.2.2.1 v.2.2.2.2.1 v.2.2.2.2.2.1 v.2.2.2.2.2.2.1 v.2.2.2.2.2.2.2.1 v.2.2.2.2.2.2.2.2.1 v.2.2.2.2.2.2.2.2.2.1 v.2.2.2.2.2.2.2.2.2.2.1 v.2.2.2.2.2.2.2.2.2.2.2.1 v.2.2.2.2.2.2.2.2.2.2.2.2.1 v.2.2.2.2.2.2.2.2.2.2.2.2.2.1 v.2.2.2.2.2.2.2.2.2.2.2.2.2.2.1 v.2.2.2.2.2.2.2.2.2.2.2.2.2.2.2.1 v.2.2.2.2.2.2.2.2.2.2.2.2.2.2.2.2.1 v.2.2.2.2.2.2.2.2.2.2.2.2.2.2.2.2.2.1 v.2.2.2.2.2.2.2.2.2.2.2.2.2.2.2.2.2.2.1 v.2.2.2.2.2.2.2.2.2.2.2.2.2.2.2.2.2.2.2.1 v.2.2.2.2.2.2.2.2.2.2.2.2.2.2.2.2.2.2.2.2.1 v.2.2.2.2.2.2.2.2.2.2.2.2.2.2.2.2.2.2.2.2.2
@[irreducible] noncomputable def prog : Program := c.1
@[irreducible] noncomputable def w : World := c.2.1
@[irreducible] noncomputable def A : Around := c.2.2.1
@[irreducible] noncomputable def R : Result → Shared → Prop := c.2.2.2.1
@[irreducible] noncomputable def s : Shared := c.2.2.2.2.1
@[irreducible] noncomputable def x : Str := c.2.2.2.2.2.1
@[irreducible] noncomputable def y : Str := c.2.2.2.2.2.2.1
@[irreducible] noncomputable def px : Pos := c.2.2.2.2.2.2.2.1
@[irreducible] noncomputable def px2 : Pos := c.2.2.2.2.2.2.2.2.1
@[irreducible] noncomputable def py : Pos := c.2.2.2.2.2.2.2.2.2.1
@[irreducible] noncomputable def py2 : Pos := c.2.2.2.2.2.2.2.2.2.2.1
@[irreducible] noncomputable def i1 : PySem.Expr := c.2.2.2.2.2.2.2.2.2.2.2.1
@[irreducible] noncomputable def scope : Scope := c.2.2.2.2.2.2.2.2.2.2.2.2.1
@[irreducible] noncomputable def pos : Pos := c.2.2.2.2.2.2.2.2.2.2.2.2.2.1
@[irreducible] noncomputable def cenv : Env := c.2.2.2.2.2.2.2.2.2.2.2.2.2.2.1
@[irreducible] noncomputable def I : Addr := c.2.2.2.2.2.2.2.2.2.2.2.2.2.2.2.1
@[irreducible] noncomputable def a : Addr := c.2.2.2.2.2.2.2.2.2.2.2.2.2.2.2.2.1
@[irreducible] noncomputable def D : Addr := c.2.2.2.2.2.2.2.2.2.2.2.2.2.2.2.2.2.1
@[irreducible] noncomputable def rs : List Value := c.2.2.2.2.2.2.2.2.2.2.2.2.2.2.2.2.2.2.1
@[irreducible] noncomputable def nss : List (List Int) := c.2.2.2.2.2.2.2.2.2.2.2.2.2.2.2.2.2.2.2.1
@[irreducible] noncomputable def na : Nat := c.2.2.2.2.2.2.2.2.2.2.2.2.2.2.2.2.2.2.2.2.1
@[irreducible] noncomputable def m0 : Str → Option Value := c.2.2.2.2.2.2.2.2.2.2.2.2.2.2.2.2.2.2.2.2.2
theorem spec_c : Say prog w A R s x y px px2 py py2 i1 scope pos cenv I a D rs nss na m0 := by
  intro hh hk hx hy hxd hyd hIa hDI hLI hDL haD haL hit ha hD hn hsz hrs hrb fin
  refine codeAny_loop rfl (OutI s I a D cenv.locals rs nss) (fun n s' hI => ?_) rs.length ⟨0, 0, [], s.heap, s.toks, m0, by lia, rfl, hit, hD, .nil, hn, fun _ _ _ _ _ e => e⟩
  obtain ⟨i, nn, ys, h, tk, m, hni, rfl, it, hd, hI, hm, keep⟩ := hI
  have hah := keep a _ haD haL hIa ha
  show wpAny _ A ((compTurn _ _ _ _ _).onRaise (fun x => do noteFrame x cenv; theTreesLotGoes x)) _ _ _
  refine wpAny_noted ?_
  rw [turn_out]
  refine wpAny_bind (wpAny_standAt ?_)
  by_cases hi : i < rs.length
  · refine wpAny_bind ((Walks.list (prog := prog) (w := w) hh I a hIa rs.toArray).item i _ _ _ (by simpa using hi) ⟨it, _, hah, rfl, na, rfl⟩ fun v h1 tk1 hv st1 k1 => ?_)
    have k1' : ∀ c o, c ≠ I → h.get? c = some o → h1.get? c = some o := fun c o q e => k1 c o (by simpa using q) e
    have ev : rs[i]? = some v := by simpa using hv
    obtain ⟨b, ws, nb, ns, rfl, hb, hns, hws⟩ := hrs.2 i v ev
    obtain ⟨hbD, hbL, hbI⟩ := hrb b (List.mem_of_getElem? ev)
    dsimp only
    refine wpAny_bind (wpAny_of_eq (rfl : letOwnedTupleGo _ _ _ = pure ()) ?_)
    refine wpAny_bind (wpAny_assign_Name (wpAny_storeName_local hx (hm.at' fun o e => k1' _ o hLI e) (fun h2 hn2 hs2 => ?_) (by rw [hk]; rfl)))
    have k2 : ∀ c o, c ≠ cenv.locals → h1.get? c = some o → h2.get? c = some o := fun c o q e => hs2.extBut c o q e
    refine wpAny_bind (wpAny_Name (wpAny_loadName_local hk hx hn2 (if_pos rfl) ?_) hxd)
    refine wpAny_bind (wpAny_standAt ?_)
    refine wpAny_bind (wpAny_of_eq (rfl : foldedSetIterable _ _ _ = pure _) ?_)
    have hb2 : h2.get? b = some (listOf ws.toArray nb) := k2 _ _ hbL (k1' _ _ hbI (keep b _ hbD hbL hbI hb))
    refine wpAny_bind (wpAny_holding (list_iter (items := ws.toArray) ⟨_, hb2, rfl, nb, rfl⟩ fun h3 hit3 k3 => ?_))
    dsimp only at hit3 k3 ⊢
    have fr : ∀ c o, h2.get? c = some o → c ≠ h2.objs.size := fun c o e => Nat.ne_of_lt (Heap.lt_size e)
    have hD2 := k2 _ _ hDL (k1' _ _ hDI hd)
    obtain ⟨oI, hoI, _⟩ := id st1.1
    have hI2 := k2 _ _ (Ne.symm hLI) hoI
    have hlen : ys.length = (nss.take i).flatten.length := hI.length
    have hfl : (nss.take (i + 1)).flatten = (nss.take i).flatten ++ ns := by rw [List.take_add_one, hns, List.flatten_append]; simp
    have hle : (nss.take (i + 1)).flatten.length ≤ nss.flatten.length := by
      have e : nss.flatten = (nss.take (i + 1)).flatten ++ (nss.drop (i + 1)).flatten := by rw [← List.flatten_append, List.take_append_drop]
      rw [e, List.length_append]; lia
    have hle2 : ys.length + ws.length ≤ sizeLine := by
      rw [hfl, List.length_append] at hle
      rw [hlen, hws.length]
      lia
    obtain ⟨oL, _, _, hoL, _⟩ := id hn2
    have inner : codeAny (model prog w) A (.compLoop (twoComp (.Name y py) (.Name x px) i1 (.Name y py2) (.Name x px2) scope pos) 1 (.ref h2.objs.size) (.ref D) cenv) (fun r s' => match r with
        | .ok f => (wpAny (model prog w) A (pure (Fin.again (.compLoop (twoComp (.Name y py) (.Name x px) i1 (.Name y py2) (.Name x px2) scope pos) 0 (.ref I) (.ref D) cenv)) : Sem Fin) (fun fin s' => match fin with | .done f => R (.ok f) s' | .again c' => c' = (.compLoop (twoComp (.Name y py) (.Name x px) i1 (.Name y py2) (.Name x px2) scope pos) 0 (.ref I) (.ref D) cenv) ∧ ∃ m, m < n ∧ OutI s I a D cenv.locals rs nss m s') (fun _ _ => False) s')
        | .error _ => False) { s with heap := h3, toks := tk1 + 1 } := by
      refine in_loop hh hk hy hyd (ws := ws) (ys0 := ys) (m0 := _) (fr _ _ hb2) (fr _ _ hD2) (fr _ _ hoL) hDL hbD hbL hit3 (k3 _ _ hb2) (k3 _ _ hD2) (hn2.keeps k3) hle2 fun h4 tk4 nn4 m4 hd4 hm4 keep4 => ?_
      dsimp only at keep4 ⊢
      refine wpAny_pure ⟨rfl, n - 1, by lia, i + 1, nn4, ys ++ ws, h4, tk4, m4, by lia, rfl, st1.1.at fun o e => ?_, hd4, ?_, hm4, fun c o c1 c2 c3 e => ?_⟩
      · exact keep4 _ o (Ne.symm hDI) (Ne.symm hLI) (fr _ _ hI2) (k3 _ _ (k2 _ _ (Ne.symm hLI) e))
      · rw [hfl]; exact IntsAre.append hI hws
      · have e2 := k2 _ _ c2 (k1' _ _ c3 (keep c o c1 c2 c3 e))
        exact keep4 _ o c1 c2 (fr _ _ e2) (k3 _ _ e2)
    refine wpAny_bind (wpAny_runOwn (start_in (codeAny_mono inner fun r s' q => ?_) ((Walks.list (prog := prog) (w := w) (A := A) hh h2.objs.size b (fr _ _ hb2) ws.toArray).self 0 _ _ _ ⟨hit3, _, k3 _ _ hb2, rfl, nb, rfl⟩ (codeAny_mono inner fun r s' q => ?_))))
    · cases r with
      | ok f => exact wpAny_mono q (fun _ _ z => z) fun _ _ z => z.elim
      | error e => exact q.elim
    · cases r with
      | ok f => exact wpAny_mono q (fun _ _ z => z) fun _ _ z => z.elim
      | error e => exact q.elim
  · have hil : i = rs.length := by lia
    refine wpAny_bind ((Walks.list (prog := prog) (w := w) hh I a hIa rs.toArray).done _ _ _ ⟨by rw [List.size_toArray, ← hil]; exact it, _, hah, rfl, na, rfl⟩ fun h1 tk1 k1 => ?_)
    have k1' : ∀ c o, c ≠ I → h.get? c = some o → h1.get? c = some o := fun c o q e => k1 c o (by simpa using q) e
    dsimp only
    refine wpAny_pure (fin h1 tk1 nn ys m (k1' _ _ hDI hd) ?_ (hm.at' fun o e => k1' _ o hLI e) fun c o c1 c2 c3 e => k1' c o c3 (keep c o c1 c2 c3 e))
    rw [List.take_of_length_le (by have := hrs.1; lia)] at hI
    exact hI
theorem all : Say c.1 c.2.1 c.2.2.1 c.2.2.2.1 c.2.2.2.2.1 c.2.2.2.2.2.1 c.2.2.2.2.2.2.1 c.2.2.2.2.2.2.2.1 c.2.2.2.2.2.2.2.2.1 c.2.2.2.2.2.2.2.2.2.1 c.2.2.2.2.2.2.2.2.2.2.1 c.2.2.2.2.2.2.2.2.2.2.2.1 c.2.2.2.2.2.2.2.2.2.2.2.2.1 c.2.2.2.2.2.2.2.2.2.2.2.2.2.1 c.2.2.2.2.2.2.2.2.2.2.2.2.2.2.1 c.2.2.2.2.2.2.2.2.2.2.2.2.2.2.2.1 c.2.2.2.2.2.2.2.2.2.2.2.2.2.2.2.2.1 c.2.2.2.2.2.2.2.2.2.2.2.2.2.2.2.2.2.1 c.2.2.2.2.2.2.2.2.2.2.2.2.2.2.2.2.2.2.1 c.2.2.2.2.2.2.2.2.2.2.2.2.2.2.2.2.2.2.2.1 c.2.2.2.2.2.2.2.2.2.2.2.2.2.2.2.2.2.2.2.2.1 c.2.2.2.2.2.2.2.2.2.2.2.2.2.2.2.2.2.2.2.2.2 := by
  have h := spec_c
  unfold prog w A R s x y px px2 py py2 i1 scope pos cenv I a D rs nss na m0 at h
  exact h
end Noutloop
theorem out_loop {prog : Program} {w : World} {A : Around} {R : Result → Shared → Prop} {s : Shared} (hh : A.handled = none) {x y : Str} {px px2 py py2 : Pos} {i1 : PySem.Expr} {scope : Scope} {pos : Pos} {cenv : Env} (hk : cenv.scope.kind = .function) (hx : cenv.kindOf x = some .local) (hy : cenv.kindOf y = some .local)
    (hxd : (x == ("__debug__" : Str)) = false) (hyd : (y == ("__debug__" : Str)) = false)
    {I a D : Addr} {rs : List Value} {nss : List (List Int)} {na : Nat} {m0 : Str → Option Value} (hIa : a ≠ I) (hDI : D ≠ I) (hLI : cenv.locals ≠ I) (hDL : D ≠ cenv.locals) (haD : a ≠ D) (haL : a ≠ cenv.locals)
    (hit : s.heap.IsListIter I a 0) (ha : s.heap.get? a = some (listOf rs.toArray na)) (hD : s.heap.get? D = some (listOf #[] 0)) (hn : s.heap.Ns cenv.locals m0) (hsz : nss.flatten.length ≤ sizeLine)
    (hrs : Rows2 s.heap rs nss) (hrb : ∀ b, Value.ref b ∈ rs → b ≠ D ∧ b ≠ cenv.locals ∧ b ≠ I)
    (fin : ∀ h' tk nn ys m, h'.get? D = some (listOf ys.toArray nn) → IntsAre ys nss.flatten → h'.Ns cenv.locals m → (∀ c o, c ≠ D → c ≠ cenv.locals → c ≠ I → s.heap.get? c = some o → h'.get? c = some o) → R (.ok .next) { s with heap := h', toks := tk }) :
    codeAny (model prog w) A (.compLoop (twoComp (.Name y py) (.Name x px) i1 (.Name y py2) (.Name x px2) scope pos) 0 (.ref I) (.ref D) cenv) R s := by
  exact of_pick Noutloop.ne (fun v => Noutloop.Say v.1 v.2.1 v.2.2.1 v.2.2.2.1 v.2.2.2.2.1 v.2.2.2.2.2.1 v.2.2.2.2.2.2.1 v.2.2.2.2.2.2.2.1 v.2.2.2.2.2.2.2.2.1 v.2.2.2.2.2.2.2.2.2.1 v.2.2.2.2.2.2.2.2.2.2.1 v.2.2.2.2.2.2.2.2.2.2.2.1 v.2.2.2.2.2.2.2.2.2.2.2.2.1 v.2.2.2.2.2.2.2.2.2.2.2.2.2.1 v.2.2.2.2.2.2.2.2.2.2.2.2.2.2.1 v.2.2.2.2.2.2.2.2.2.2.2.2.2.2.2.1 v.2.2.2.2.2.2.2.2.2.2.2.2.2.2.2.2.1 v.2.2.2.2.2.2.2.2.2.2.2.2.2.2.2.2.2.1 v.2.2.2.2.2.2.2.2.2.2.2.2.2.2.2.2.2.2.1 v.2.2.2.2.2.2.2.2.2.2.2.2.2.2.2.2.2.2.2.1 v.2.2.2.2.2.2.2.2.2.2.2.2.2.2.2.2.2.2.2.2.1 v.2.2.2.2.2.2.2.2.2.2.2.2.2.2.2.2.2.2.2.2.2) Noutloop.all (prog, w, A, R, s, x, y, px, px2, py, py2, i1, scope, pos, cenv, I, a, D, rs, nss, na, m0) hh hk hx hy hxd hyd hIa hDI hLI hDL haD haL hit ha hD hn hsz hrs hrb fin
section
variable {prog : Program} {w : World} {A : Around} {E : Value → Shared → Prop} {R : Result → Shared → Prop} {s : Shared}
/-- [y for x in iter for y in x], as a value -/
theorem flat_comp {env : Env} {x y : Str} {px px2 py py2 : Pos} {iter : PySem.Expr} {scope : Scope} {pos : Pos} {Q : Value → Shared → Prop} (hh : A.handled = none) (hclos : closureFor scope env = pure []) (hkind : scope.kind = .function) (hcell : ∀ x ∈ scope.names, x.2 ≠ .cell)
    (hnd : (scope.names.map (·.1)).Nodup) (hx : scope.names.lookup x = some .local) (hy : scope.names.lookup y = some .local) (hxd : (x == ("__debug__" : Str)) = false) (hyd : (y == ("__debug__" : Str)) = false)
    (h : wpAny (model prog w) A (eval iter env) (fun xv s₁ => Stop (∃ a rs na nss, xv = .ref a ∧ s₁.heap.get? a = some (listOf rs.toArray na) ∧ Rows2 s₁.heap rs nss ∧ nss.flatten.length ≤ sizeLine ∧
      ∀ D ys nn h' tk, (∀ b o, s₁.heap.get? b = some o → h'.get? b = some o) → s₁.heap.get? D = none → h'.get? D = some (listOf ys.toArray nn) → IntsAre ys nss.flatten → Q (.ref D) { s₁ with heap := h', toks := tk })) E s)
    (hs : ∀ x, foldedSetIterable iter env x = pure x := by intro _; rfl) :
    wpAny (model prog w) A (eval (twoComp (.Name y py) (.Name x px) iter (.Name y py2) (.Name x px2) scope pos) env) Q E s := by
  rw [eval_ListComp]
  refine wpAny_comprehension_free (use := none) rfl hs hclos hkind (fun x hx hl => lookup_of_mem hnd (by rw [← hl]; exact hx)) (wpAny_mono h (fun xv s₁ h₁ => ?_) fun _ _ e => e)
  obtain ⟨a, rs, na, nss, rfl, ha, hrs, hsz, hq⟩ := h₁
  refine list_iter (items := rs.toArray) ⟨_, ha, rfl, na, rfl⟩ fun h2 hit k2 => ?_
  refine wpAny_newObj_type ?_ (by size_fits)
  refine wpAny_newFunctionEnv hcell (fun _ h => nomatch h) (fun h4 hn4 hs4 => ?_) hkind
  dsimp only at hit k2 hn4 hs4 ⊢
  generalize hH3 : h2.push { cls := .type "list", dict := none, data := .seq ([] : List Value).toArray } = h3 at hn4 hs4 ⊢
  have hI : @LT.lt Nat _ s₁.heap.objs.size h2.objs.size := by obtain ⟨o, ho, _⟩ := hit; exact Heap.lt_size ho
  have hsz3 : h3.objs.size = h2.objs.size + 1 := by rw [← hH3, Heap.size_push]
  have k3 : ∀ b o, h2.get? b = some o → h3.get? b = some o := fun b o e => hH3 ▸ Heap.get?_push_of_some _ e
  have k4 : ∀ b o, h3.get? b = some o → h4.get? b = some o := fun b o e => hs4.extBut b o (Nat.ne_of_lt (Heap.lt_size e)) (Heap.get?_push_of_some _ e)
  have hD3 : h3.get? h2.objs.size = some (listOf #[] 0) := by rw [← hH3]; exact Heap.get?_push_size _ rfl
  have old : ∀ b o, s₁.heap.get? b = some o → h4.get? b = some o := fun b o e => k4 b o (k3 b o (k2 b o e))
  have lt1 : ∀ b o, s₁.heap.get? b = some o → @LT.lt Nat _ b s₁.heap.objs.size := fun b o e => Heap.lt_size e
  have hane := lt1 a _ ha
  have hkx : ∀ z, scope.names.lookup z = some .local → (relabel scope env).names.lookup z = some .local := fun z hz => relabel_keep (by decide) hz
  have loop : ∀ (cenv : Env) tk, cenv.scope = relabel scope env → cenv.locals = h3.objs.size → codeAny (model prog w) A (.compLoop (twoComp (.Name y py) (.Name x px) iter (.Name y py2) (.Name x px2) scope pos) 0 (.ref s₁.heap.objs.size) (.ref h2.objs.size) cenv)
      (compPost (model prog w) A E none Q (.ref h2.objs.size) h3.objs.size) { s₁ with heap := h4, toks := tk } := by
    intro cenv tk hcs hcl
    have hIx : h4.IsListIter s₁.heap.objs.size a 0 := hit.at fun o e => k4 _ o (k3 _ o e)
    refine out_loop hh (nss := nss) (by rw [hcs]; exact hkind) (by show cenv.scope.names.lookup x = _; rw [hcs]; exact hkx x hx) (by show cenv.scope.names.lookup y = _; rw [hcs]; exact hkx y hy) hxd hyd (Nat.ne_of_lt hane) (Nat.ne_of_gt hI) (by rw [hcl]; show @Ne Nat _ _; lia) (by rw [hcl]; show @Ne Nat _ _; lia) (by show @Ne Nat _ _; lia) (by rw [hcl]; show @Ne Nat _ _; lia)
      hIx (old a _ ha) (k4 _ _ hD3) (by rw [hcl]; exact hn4) hsz ⟨hrs.1, fun i v e => ?_⟩ (fun b hb => ?_) fun h' tk' nn ys m hD' hI' hm' keep => ?_
    · obtain ⟨b, ws, nb, ns, rfl, hb, hns, hws⟩ := hrs.2 i v e
      exact ⟨b, ws, nb, ns, rfl, old _ _ hb, hns, hws⟩
    · obtain ⟨i, hi⟩ := List.mem_iff_getElem?.mp hb
      obtain ⟨b', ws, nb, ns, e, hb', _, _⟩ := hrs.2 i _ hi
      cases e
      have hlt := lt1 b _ hb'
      rw [hcl]
      exact ⟨by show @Ne Nat _ _; lia, by show @Ne Nat _ _; lia, by show @Ne Nat _ _; lia⟩
    · rw [hcl] at hm' keep
      refine ⟨m, hm', fun h'' sb => hq _ ys nn h'' _ (fun b o e => ?_) (Heap.get?_none_of_le (Nat.le_of_lt hI)) (sb.extBut _ _ (by show @Ne Nat _ _; lia) hD') hI'⟩
      have hlt := lt1 b o e
      exact sb.extBut b o (by show @Ne Nat _ _; lia) (keep b o (by show @Ne Nat _ _; lia) (by show @Ne Nat _ _; lia) (by show @Ne Nat _ _; lia) (old b o e))
  refine codeAny_compStart_list (loop _ _ rfl rfl) ?_
  refine (Walks.list (prog := prog) (w := w) (A := A) hh s₁.heap.objs.size a (Nat.ne_of_lt hane) rs.toArray).self 0 _ _ _ ⟨hit.at fun o e => k4 _ o (k3 _ o e), _, old a _ ha, rfl, na, rfl⟩ (loop _ _ rfl rfl)
end
end RS
end PartC2

section PartLD
open PySem PySem.W PyProof.Rows PySem.Calls
set_option Elab.async false
set_option maxRecDepth 100000
namespace RS
section
variable {prog : Program} {w : World} {A : Around} {E : Value → Shared → Prop}
theorem enumS {s : Shared} {h₁ : Heap} {tk₁ : Nat} {l : Addr} {vs : List Value} (hh : A.handled = none) (k : Sub s.heap h₁) (hsz : s.heap.objs.size ≤ h₁.objs.size) (hl : h₁.IsList l vs.toArray) (x y : Str) (px py pt : Pos) (kk : Nat) :
    wpAny (model prog w) A (call (.type "enumerate") [.ref l]) (fun xv s₁ => wpAny (model prog w) A (pyIter xv) (SrcP prog w A s (.Tuple [.Name x px, .Name y py] kk pt) vs.length (BEnum x y vs)) E s₁) E { s with heap := h₁, toks := tk₁ } := by
  have hlt : @LT.lt Nat _ l h₁.objs.size := by obtain ⟨o, e, _⟩ := hl; exact Heap.lt_size e
  refine call_enumerate_list hl fun h' he hit hz k' => ?_
  exact src_enum hh (k.trans k') he hit (hl.at fun o e => k' _ _ e) (Nat.succ_ne_self _) (Nat.ne_of_lt (Nat.lt_succ_of_lt hlt)) (Nat.ne_of_lt hlt) (Nat.le_succ_of_le hsz) hsz x y px py pt kk
theorem SrcP.mono {s : Shared} {target : PySem.Expr} {n : Nat} {B B' : Nat → List (Str × Value) → Prop} {it : Value} {s₂ : Shared} (h : SrcP prog w A s target n B it s₂) (hB : ∀ i bs, i < n → B i bs → B' i bs) : SrcP prog w A s target n B' it s₂ := by
  obtain ⟨I, wr, St, h₂, tk₂, e1, e2, e3, e4, e5, e6, F⟩ := h
  exact ⟨I, wr, St, h₂, tk₂, e1, e2, e3, e4, e5, e6, ⟨F.frame, fun i s env Q hi st kk h => F.item i s env Q hi st kk fun bs h' tk hb => h bs h' tk (hB i bs hi hb), F.done, F.self⟩⟩
abbrev BEnumI (x y : Str) (js : List Int) (i : Nat) (bs : List (Str × Value)) : Prop := ∃ t u, bs = [(x, Value.int (i : Int) t), (y, Value.int (js.getD i 0) u)]
theorem BEnumI.tg {x y : Str} {js : List Int} : ∀ i bs, BEnumI x y js i bs → bs.map (·.1) = [x, y] := fun _ _ ⟨_, _, e⟩ => e ▸ rfl
theorem enumI {s : Shared} {h₁ : Heap} {tk₁ : Nat} {l : Addr} {vs : List Value} {js : List Int} (hh : A.handled = none) (k : Sub s.heap h₁) (hsz : s.heap.objs.size ≤ h₁.objs.size) (hl : h₁.IsList l vs.toArray) (hi : IntsAre vs js) (x y : Str) (px py pt : Pos) (kk : Nat) :
    wpAny (model prog w) A (call (.type "enumerate") [.ref l]) (fun xv s₁ => wpAny (model prog w) A (pyIter xv) (SrcP prog w A s (.Tuple [.Name x px, .Name y py] kk pt) js.length (BEnumI x y js)) E s₁) E { s with heap := h₁, toks := tk₁ } :=
  wpAny_mono (enumS hh k hsz hl x y px py pt kk) (fun xv s₁ q => wpAny_mono q (fun it s₂ r => hi.length ▸ (SrcP.mono r fun i bs hi2 hb => by
    obtain ⟨a, b, rfl, t, rfl, hv⟩ := hb
    obtain ⟨d, u, rfl, hd⟩ := ints_at hi hv
    exact ⟨t, u, by rw [List.getD_eq_getElem?_getD, hd]; rfl⟩)) fun _ _ z => z) fun _ _ z => z
theorem zipS {s : Shared} {h₁ : Heap} {tk₁ : Nat} {l1 l2 : Addr} {xs ys : List Value} (hh : A.handled = none) (k : Sub s.heap h₁) (hsz : s.heap.objs.size ≤ h₁.objs.size) (hl1 : h₁.IsList l1 xs.toArray) (hl2 : h₁.IsList l2 ys.toArray) (x y : Str) (px py pt : Pos) (kk : Nat) :
    wpAny (model prog w) A (call (.type "zip") [.ref l1, .ref l2]) (fun xv s₁ => wpAny (model prog w) A (pyIter xv) (SrcP prog w A s (.Tuple [.Name x px, .Name y py] kk pt) (min xs.length ys.length) (BZip x y xs ys)) E s₁) E { s with heap := h₁, toks := tk₁ } := by
  have n1 : l1 < h₁.objs.size := by obtain ⟨o, e, _⟩ := hl1; exact Heap.lt_size e
  have n2 : l2 < h₁.objs.size := by obtain ⟨o, e, _⟩ := hl2; exact Heap.lt_size e
  refine call_zip_2 hl1 hl2 fun h' hz hTI hTO hi1 hi2 hsz' k' => ?_
  refine src_zip hh (k.trans k') ?_ hz hTI hTO hi1 hi2 (hl1.at fun o e => k' _ _ e) (hl2.at fun o e => k' _ _ e) ?_ x y px py pt kk
  · dsimp only
    constructor <;> (intro q; simp only [Addr] at *; lia)
  · intro b hb
    simp only [List.mem_cons, List.not_mem_nil, or_false] at hb
    rcases hb with rfl | rfl | rfl | rfl <;> (show @LE.le Nat _ _ _) <;> (simp only [Addr] at *; lia)
theorem item_pair {value slice : PySem.Expr} {s : Shared} {l : Addr} {v0 v1 v : Value} {k : Int} {u : Tok} {Q : Value → Shared → Prop}
    (hl : s.heap.IsTuple l #[v0, v1]) (hk : (k = 0 ∧ v = v0) ∨ (k = 1 ∧ v = v1)) (h : Q v s)
    (hs : subscripted slice false (.ref l) (.int k u) = operate [.ref l, .int k u] (getItem (.ref l) (.int k u)) := by with_unfolding_all rfl) :
    wpAny (model prog w) A (subscriptTail value slice (.ref l) (.int k u)) Q E s := by
  rcases hk with ⟨rfl, rfl⟩ | ⟨rfl, rfl⟩
  · exact tail_any hl.typeIs slot_tuple_getitem.lookup (getItem_tuple (j := 0) hl (by decide) (by decide) rfl rfl h) hs
  · exact tail_any hl.typeIs slot_tuple_getitem.lookup (getItem_tuple (j := 1) hl (by decide) (by decide) rfl rfl h) hs
theorem RowsC.ints {h : Heap} {rs : List Value} {nss : List (List Int)} (R : RowsC h rs (nss.map fun ns => ns.map PyData.int)) : Rows2 h rs nss := by
  refine ⟨by simpa using R.1, fun i v e => ?_⟩
  obtain ⟨b, ws, ds, rfl, ⟨nb, hb⟩, hd, hc⟩ := R.2 i v e
  rw [List.getElem?_map] at hd
  obtain ⟨ns, hns, rfl⟩ := Option.map_eq_some_iff.mp hd
  exact ⟨b, ws, nb, ns, rfl, hb, hns, ints_of_carried hc⟩
end
end RS
end PartLD

section PartLE
open PySem PySem.W PyProof.Rows PySem.Calls
set_option Elab.async false
set_option maxRecDepth 100000
namespace RS
/-- numbers and truth values -/
def Flat (d : PyData) : Prop := (∃ i, d = .int i) ∨ ∃ b, d = .bool b
theorem flat_ints (ns : List Int) : ∀ d ∈ ns.map PyData.int, Flat d := fun d h => by obtain ⟨i, _, rfl⟩ := List.mem_map.mp h; exact .inl ⟨i, rfl⟩
theorem flat_bools (ns : List Bool) : ∀ d ∈ ns.map PyData.bool, Flat d := fun d h => by obtain ⟨i, _, rfl⟩ := List.mem_map.mp h; exact .inr ⟨i, rfl⟩
theorem flat_row : ∀ ds : List PyData, (∀ d ∈ ds, Flat d) → PyData.canLayAll0 ds = true ∧ PyData.depthAll ds ≤ 1
  | [], _ => ⟨rfl, Nat.zero_le _⟩
  | d :: ds, h => by
    obtain ⟨a, b⟩ := flat_row ds fun x hx => h x (.tail _ hx)
    rcases h d (.head _) with ⟨i, rfl⟩ | ⟨i, rfl⟩
    · exact ⟨by simp [PyData.canLayAll0, PyData.canLay0, a], by simp only [PyData.depthAll, PyData.depth]; lia⟩
    · exact ⟨by simp [PyData.canLayAll0, PyData.canLay0, a], by simp only [PyData.depthAll, PyData.depth]; lia⟩
theorem flat_rows : ∀ dss : List (List PyData), (∀ ds ∈ dss, ∀ d ∈ ds, Flat d) → PyData.canLayAll0 (dss.map PyData.list) = true ∧ PyData.depthAll (dss.map PyData.list) ≤ 3
  | [], _ => ⟨rfl, Nat.zero_le _⟩
  | ds :: dss, h => by
    obtain ⟨a, b⟩ := flat_rows dss fun x hx => h x (.tail _ hx)
    obtain ⟨c, d⟩ := flat_row ds (h ds (.head _))
    exact ⟨by simp [PyData.canLayAll0, PyData.canLay0, a, c], by simp only [List.map_cons, PyData.depthAll, PyData.depth]; lia⟩
open PySem.SeqAt in
theorem shaped_rows {dss : List (List PyData)} (h : ∀ ds ∈ dss, ∀ d ∈ ds, Flat d) : shaped (.list (dss.map PyData.list)) = true := by
  obtain ⟨a, b⟩ := flat_rows dss h
  unfold shaped
  rw [Bool.and_eq_true]
  exact ⟨by rw [PyData.canLay0]; exact a, decide_eq_true (by simp only [PyData.depth]; lia)⟩
open PySem.SeqAt in
theorem shaped_row {ds : List PyData} (h : ∀ d ∈ ds, Flat d) : shaped (.list ds) = true := by
  obtain ⟨a, b⟩ := flat_row ds h
  unfold shaped
  rw [Bool.and_eq_true]
  exact ⟨by rw [PyData.canLay0]; exact a, decide_eq_true (by simp only [PyData.depth]; lia)⟩
theorem rows_all {h : Heap} : ∀ {rs : List Value} {dss : List (List PyData)}, RowsC h rs dss → ∃ as, ReadsAll h rs (dss.map PyData.list) as
  | [], [], _ => ⟨_, .nil⟩
  | [], _ :: _, R => by cases R.1
  | _ :: _, [], R => by cases R.1
  | v :: rs, ds :: dss, R => by
    obtain ⟨as, ih⟩ := rows_all (rs := rs) (dss := dss) ⟨by simpa using R.1, fun i u e => R.2 (i + 1) u (by simpa using e)⟩
    obtain ⟨b, ws, ds', rfl, hb, hd, hc⟩ := R.2 0 v rfl
    cases hd
    exact ⟨_, .cons (reads_newData hb.lst hc) ih⟩
theorem rows_reads {h : Heap} {D : Addr} {rs : List Value} {dss : List (List PyData)} (hD : DL h D rs) (R : RowsC h rs dss) : ∃ as, Reads h (.ref D) (.list (dss.map PyData.list)) as := by
  obtain ⟨as, ha⟩ := rows_all R
  obtain ⟨n, hn⟩ := hD
  exact ⟨_, .list hn rfl rfl ha⟩
section
variable {prog : Program} {w : World} {A : Around} {E : Value → Shared → Prop} {s : Shared}
/-- like rows are not unlike -/
theorem rows_ne {N M : Addr} {rs rs' : List Value} {dss : List (List PyData)} {Q : Value → Shared → Prop} (hN : DL s.heap N rs) (R1 : RowsC s.heap rs dss) (hM : DL s.heap M rs') (R2 : RowsC s.heap rs' dss) (hf : ∀ ds ∈ dss, ∀ d ∈ ds, Flat d) (hu : A.units + 64 < cLine) (h : Q (.bool false) s) :
    wpAny (model prog w) A (compareOp .NotEq (.ref N) (.ref M)) Q E s := by
  obtain ⟨as, ha⟩ := rows_reads hN R1
  obtain ⟨bs, hb⟩ := rows_reads hM R2
  refine ne_dataH ha hb (shaped_rows hf) (shaped_rows hf) hu ?_
  rw [SeqAt.eqv_refl _ (by obtain ⟨a, _⟩ := flat_rows dss hf; rw [PyData.canLay0]; exact a)]
  exact h
theorem row_ne {N M : Addr} {rs rs' : List Value} {ds : List PyData} {Q : Value → Shared → Prop} (hN : DL s.heap N rs) (R1 : CarriedAll rs ds) (hM : DL s.heap M rs') (R2 : CarriedAll rs' ds) (hf : ∀ d ∈ ds, Flat d) (hu : A.units + 64 < cLine) (h : Q (.bool false) s) :
    wpAny (model prog w) A (compareOp .NotEq (.ref N) (.ref M)) Q E s := by
  refine ne_dataH (reads_newData hN.lst R1) (reads_newData hM.lst R2) (shaped_row hf) (shaped_row hf) hu ?_
  rw [SeqAt.eqv_refl _ (by obtain ⟨a, _⟩ := flat_row ds hf; rw [PyData.canLay0]; exact a)]
  exact h
theorem eqv_ints : ∀ (xs ys : List Int), PyData.eqvAll (xs.map PyData.int) (ys.map PyData.int) = decide (xs = ys)
  | [], [] => by simp [PyData.eqvAll]
  | [], _ :: _ => by simp [PyData.eqvAll]
  | _ :: _, [] => by simp [PyData.eqvAll]
  | x :: xs, y :: ys => by
    simp only [List.map_cons, PyData.eqvAll, PyData.eqv, eqv_ints xs ys]
    by_cases h1 : x = y <;> by_cases h2 : xs = ys <;> simp [h1, h2]
theorem row_eq {N M : Addr} {rs rs' : List Value} {xs ys : List Int} {Q : Value → Shared → Prop} (hN : DL s.heap N rs) (R1 : IntsAre rs xs) (hM : DL s.heap M rs') (R2 : IntsAre rs' ys) (hu : A.units + 64 < cLine) (h : Q (.bool (decide (xs = ys))) s) :
    wpAny (model prog w) A (compareOp .Eq (.ref N) (.ref M)) Q E s := by
  refine eq_dataH (reads_newData hN.lst (carried_of_ints R1)) (reads_newData hM.lst (carried_of_ints R2)) (shaped_row (flat_ints xs)) (shaped_row (flat_ints ys)) hu ?_
  rw [PyData.eqv, eqv_ints]
  exact h
theorem Fm.listRange {g : Heap} {env : Env} {xs : List (Addr × Obj)} {G : Heap} {m : Str → Option Value} {r : Addr} {a b : Int} {t u v : Tok} {n : Nat} {Q : Value → Shared → Prop} (hh : A.handled = none) (S : Fm g env xs G s.heap m) (hr : IsRange s.heap r a b 1 t u v) (hsmall : Builtin.Range.small a b 1 = true)
    (hn : Builtin.Range.rangeSize a b 1 = n) (hlen : n ≤ 2 ^ 24)
    (h : ∀ D G' h' ws tk, Fm g env xs G' h' m → Sub G G' → DL G' D ws → IntsAre ws ((List.range n).map fun j : Nat => a + (j : Int)) → s.heap.get? D = none → Q (.ref D) { s with heap := h', toks := tk }) :
    wpAny (model prog w) A (call (.type "list") [.ref r]) Q E s := by
  refine call_list_range hh hr hsmall hn hlen fun h' tk acc c' k e hI => ?_
  obtain ⟨G', S', g', new⟩ := S.up (h' := h') k
  obtain ⟨acc⟩ := acc
  refine h _ G' _ acc tk S' g' ⟨c', new _ _ (Heap.get?_none_of_le (Nat.le_refl _)) e⟩ ?_ (Heap.get?_none_of_le (Nat.le_refl _))
  have := ints_of_range (a := a) (c := 1) (n := n) (i := 0) (items := acc) (by simpa using hI.1) fun j w e => by
    have := hI.2 j w (by simpa using e)
    simpa using this
  rw [← List.range_eq_range'] at this
  simpa using this
end
end RS
end PartLE

theorem RS.forgetW5 {prog : PySem.Program} {w : PySem.World} {A : PySem.Around} {env : PySem.Env} {Q : PySem.Flow → PySem.Shared → Prop} {E : PySem.Value → PySem.Shared → Prop} {s : PySem.Shared}
    (h : PySem.wpAny (PySem.model prog w) A (PySem.execs [] env) Q E s) : PySem.wpAny (PySem.model prog w) A (PySem.execs [] env) Q E s := by
  first | (walk1; fail "no") | skip
  w_top off
  exact h

section PartW5
open PySem PySem.W PyProof.Rows PySem.Calls
set_option Elab.async false
set_option maxRecDepth 100000
namespace RS
theorem fillT5 : (fun (_ : Params → Frag) (_ : OpenLaw) => True) hd.heap_1 PySem.Challenge.rw_rs0192_01 := by
  k_fill
  trivial
local macro_rules | `(tactic| walk_at "call ref") => `(tactic| (refine Stop.of ?_))

set_option maxHeartbeats 4000000 in
theorem il_spec {w : World} {A : Around} {s : Shared} {p : Program} {loose : List Str} {mean : ExcName → Option Value} {mg mb : Str → Option Value} {g : Heap}
    {Q E : Value → Shared → Prop} {a : Addr} {vs : List Value} {nn : Nat} {ns : List Int} {x : Int} {tx : Tok}
    (X : (hd.heap_1 w.params).In g) (T : Top p loose mean mg mb g) (hk : ∀ b o, g.get? b = some o → s.heap.get? b = some o) (hga : g.get? a = none)
    (hh : A.handled = none) (hroom : A.depth + 12 < recursionLimit)
    (hl : s.heap.get? a = some (listOf vs.toArray nn)) (hi : IntsAre vs ns) (hsz : vs.length ≤ 1000) (hst : Steps (fun y => decide (y < x)) ns)
    (h : ∀ h' tk ws n', IntsAre ws (ns.take (ns.countP (fun y => decide (y < x))) ++ x :: ns.drop (ns.countP (fun y => decide (y < x)))) → h'.get? a = some (listOf ws.toArray n') → (∀ b o, b ≠ a → s.heap.get? b = some o → h'.get? b = some o) → Q .none { s with heap := h', toks := tk }) :
    wpAny (model PG w) A (call (.ref 62) [.ref a, .int x tx]) Q E s := by
  refine wpAny_call ?_
  refine' enterC (K := hd.heap_1 w.params) X T hk (binds := [("a", .ref a), ("x", .int x tx), ("lo", .int 0 246), ("hi", .none), ("key", .none)]) ?ho ?hcd ?hroom ?hb ?hloc ?c1 ?c2 ?c3 ?c4 ?_
  case ho => k_is
  case hcd => k_is
  case hroom => lia
  case hb => exact bindsTo_peek (X.keeps hk) (fun S => by kernel_rfl)
  case hloc => exact locs rfl
  case c1 => exact rfl
  case c2 => exact rfl
  case c3 => exact rfl
  case c4 => decide
  intro h₁ hns hk₁
  have F : Fr (s.heap.hide a) s.heap.objs.size h₁ _ := ⟨hns, fun b o e => hk₁ b o (Heap.of_hide e), Nat.le_of_eq (Heap.hide_size _ _)⟩
  have N : News (s.heap.hide a) s.heap.objs.size h₁ [(a, listOf vs.toArray nn)] := fun q hq => by
    rw [List.mem_singleton.mp hq]
    exact ⟨hk₁ _ _ hl, Nat.ne_of_lt (Heap.lt_size hl), Heap.hide_self _ _⟩
  have hgb : ∀ b o, g.get? b = some o → (s.heap.hide a).get? b = some o := fun b o e => (Heap.hide_ne _ (fun q => by rw [q, hga] at e; cases e)).trans (hk b o e)
  have X' := X.keeps hgb
  have T' := T.keeps hgb
  clear hns hk₁
  k_steps
  unfold Stop
  refine bl_spec4 X' T' F.keep hh (by show A.depth + 1 + 5 < _; lia) ⟨_, (N.get (.head _)), rfl, nn, rfl⟩ hi (by simp; lia) hst ?_
  intro t h2 tk2 k2
  have F2 := F.keeps k2
  have N2 := News.keeps N k2
  clear F N
  k_steps
  rename Fr _ _ _ _ => F3
  rename News _ _ _ _ => N3
  have hc : ns.countP (fun y => decide (y < x)) ≤ vs.length := by rw [hi.length]; exact List.countP_le_length
  refine kl_insert F3 N3 ?_ rfl (.head fun _ h => nomatch h) ?_ ?_
  · unfold Builtin.List.listFitsIndex
    simp only [Bool.and_eq_true, decide_eq_true_eq]
    lia
  · simp only [sizeLine]; simp; lia
  · intro h' F4 N4
    refine wpAny_execs_nil ?_
    refine h h' _ _ _ ?_ (N4.get (.head _)) fun b o hb e => F4.keep b o ((Heap.hide_ne _ hb).trans e)
    unfold kl_ins
    have e1 : (if ((ns.countP (fun y => decide (y < x)) : Nat) : Int) < 0 then (((ns.countP (fun y => decide (y < x)) : Nat) : Int) + (vs.toArray.toList.length : Int)).toNat else min ((ns.countP (fun y => decide (y < x)) : Nat) : Int).toNat vs.toArray.toList.length) = ns.countP (fun y => decide (y < x)) := by
      rw [if_neg (by lia)]
      simp only [Int.toNat_natCast]
      exact Nat.min_eq_left (by simpa using hc)
    rw [e1]
    exact IntsAre.append (hi.take _) (.cons _ _ (hi.drop _))
set_option maxHeartbeats 4000000 in
theorem ir_spec {w : World} {A : Around} {s : Shared} {p : Program} {loose : List Str} {mean : ExcName → Option Value} {mg mb : Str → Option Value} {g : Heap}
    {Q E : Value → Shared → Prop} {a : Addr} {vs : List Value} {nn : Nat} {ns : List Int} {x : Int} {tx : Tok}
    (X : (hd.heap_1 w.params).In g) (T : Top p loose mean mg mb g) (hk : ∀ b o, g.get? b = some o → s.heap.get? b = some o) (hga : g.get? a = none)
    (hh : A.handled = none) (hroom : A.depth + 12 < recursionLimit)
    (hl : s.heap.get? a = some (listOf vs.toArray nn)) (hi : IntsAre vs ns) (hsz : vs.length ≤ 1000) (hst : Steps (fun y => decide (y ≤ x)) ns)
    (h : ∀ h' tk ws n', IntsAre ws (ns.take (ns.countP (fun y => decide (y ≤ x))) ++ x :: ns.drop (ns.countP (fun y => decide (y ≤ x)))) → h'.get? a = some (listOf ws.toArray n') → (∀ b o, b ≠ a → s.heap.get? b = some o → h'.get? b = some o) → Q .none { s with heap := h', toks := tk }) :
    wpAny (model PG w) A (call (.ref 44) [.ref a, .int x tx]) Q E s := by
  refine wpAny_call ?_
  refine' enterC (K := hd.heap_1 w.params) X T hk (binds := [("a", .ref a), ("x", .int x tx), ("lo", .int 0 219), ("hi", .none), ("key", .none)]) ?ho ?hcd ?hroom ?hb ?hloc ?c1 ?c2 ?c3 ?c4 ?_
  case ho => k_is
  case hcd => k_is
  case hroom => lia
  case hb => exact bindsTo_peek (X.keeps hk) (fun S => by kernel_rfl)
  case hloc => exact locs rfl
  case c1 => exact rfl
  case c2 => exact rfl
  case c3 => exact rfl
  case c4 => decide
  intro h₁ hns hk₁
  have F : Fr (s.heap.hide a) s.heap.objs.size h₁ _ := ⟨hns, fun b o e => hk₁ b o (Heap.of_hide e), Nat.le_of_eq (Heap.hide_size _ _)⟩
  have N : News (s.heap.hide a) s.heap.objs.size h₁ [(a, listOf vs.toArray nn)] := fun q hq => by
    rw [List.mem_singleton.mp hq]
    exact ⟨hk₁ _ _ hl, Nat.ne_of_lt (Heap.lt_size hl), Heap.hide_self _ _⟩
  have hgb : ∀ b o, g.get? b = some o → (s.heap.hide a).get? b = some o := fun b o e => (Heap.hide_ne _ (fun q => by rw [q, hga] at e; cases e)).trans (hk b o e)
  have X' := X.keeps hgb
  have T' := T.keeps hgb
  clear hns hk₁
  k_steps
  unfold Stop
  refine br_spec4 X' T' F.keep hh (by show A.depth + 1 + 5 < _; lia) ⟨_, (N.get (.head _)), rfl, nn, rfl⟩ hi (by simp; lia) hst ?_
  intro t h2 tk2 k2
  have F2 := F.keeps k2
  have N2 := News.keeps N k2
  clear F N
  k_steps
  rename Fr _ _ _ _ => F3
  rename News _ _ _ _ => N3
  have hc : ns.countP (fun y => decide (y ≤ x)) ≤ vs.length := by rw [hi.length]; exact List.countP_le_length
  refine kl_insert F3 N3 ?_ rfl (.head fun _ h => nomatch h) ?_ ?_
  · unfold Builtin.List.listFitsIndex
    simp only [Bool.and_eq_true, decide_eq_true_eq]
    lia
  · simp only [sizeLine]; simp; lia
  · intro h' F4 N4
    refine wpAny_execs_nil ?_
    refine h h' _ _ _ ?_ (N4.get (.head _)) fun b o hb e => F4.keep b o ((Heap.hide_ne _ hb).trans e)
    unfold kl_ins
    have e1 : (if ((ns.countP (fun y => decide (y ≤ x)) : Nat) : Int) < 0 then (((ns.countP (fun y => decide (y ≤ x)) : Nat) : Int) + (vs.toArray.toList.length : Int)).toNat else min ((ns.countP (fun y => decide (y ≤ x)) : Nat) : Int).toNat vs.toArray.toList.length) = ns.countP (fun y => decide (y ≤ x)) := by
      rw [if_neg (by lia)]
      simp only [Int.toNat_natCast]
      exact Nat.min_eq_left (by simpa using hc)
    rw [e1]
    exact IntsAre.append (hi.take _) (.cons _ _ (hi.drop _))
end RS
end PartW5

theorem RS.forgetR1 {prog : PySem.Program} {w : PySem.World} {A : PySem.Around} {env : PySem.Env} {Q : PySem.Flow → PySem.Shared → Prop} {E : PySem.Value → PySem.Shared → Prop} {s : PySem.Shared}
    (h : PySem.wpAny (PySem.model prog w) A (PySem.execs [] env) Q E s) : PySem.wpAny (PySem.model prog w) A (PySem.execs [] env) Q E s := by
  first | (walk1; fail "no") | skip
  w_top off
  exact h

section PartR1
open PySem PySem.W PyProof.Rows PySem.Calls
set_option Elab.async false
set_option maxRecDepth 100000
namespace RS
theorem fillR1 : (fun (_ : Params → Frag) (_ : OpenLaw) => True) hd.heap_1 PySem.Challenge.rw_rs0192_01 := by
  k_fill
  trivial
local macro_rules | `(tactic| walk_at $k:str) => if ["exec For Name ListComp cons nil", "exec For", "call ref", "InvEndG"].contains k.getString then `(tactic| (refine Stop.of ?_)) else Lean.Macro.throwUnsupported
/-- one mark put into the row -/
def rowStep (row : List Int) (x : Int) : List Int :=
  if row.countP (fun y => decide (y < x)) = row.countP (fun y => decide (y ≤ x)) then row.take (row.countP (fun y => decide (y < x))) ++ x :: row.drop (row.countP (fun y => decide (y < x))) else row
theorem Steps.of {row : List Int} {q : Int → Bool} (h : row.Pairwise (· < ·)) (hq : ∀ x y : Int, x ≤ y → q y = true → q x = true) : Steps q row := by
  intro i j hij x y hx hy hqy
  rcases Nat.lt_or_ge i j with h1 | h1
  · obtain ⟨hi, rfl⟩ := List.getElem?_eq_some_iff.mp hx
    obtain ⟨hj, rfl⟩ := List.getElem?_eq_some_iff.mp hy
    exact hq _ _ (Int.le_of_lt (List.pairwise_iff_getElem.mp h i j hi hj h1)) hqy
  · have : i = j := by lia
    subst this
    rw [hx] at hy
    cases hy
    exact hqy
theorem sorted_cut {row : List Int} (h : row.Pairwise (· < ·)) (x : Int) : (∀ y ∈ row.take (row.countP (fun y => decide (y < x))), y < x) ∧ ∀ y ∈ row.drop (row.countP (fun y => decide (y < x))), x ≤ y := by
  induction row with
  | nil => exact ⟨fun _ h => (nomatch h), fun _ h => (nomatch h)⟩
  | cons a r ih =>
    rw [List.pairwise_cons] at h
    by_cases ha : a < x
    · rw [List.countP_cons_of_pos (by simpa using ha)]
      obtain ⟨h1, h2⟩ := ih h.2
      exact ⟨fun y hy => by
        rw [List.take_succ_cons] at hy
        rcases List.mem_cons.mp hy with rfl | hy
        · exact ha
        · exact h1 y hy, fun y hy => h2 y (by rwa [List.drop_succ_cons] at hy)⟩
    · have hz : r.countP (fun y => decide (y < x)) = 0 := by
        rw [List.countP_eq_zero]
        intro y hy
        have := h.1 y hy
        simp only [decide_eq_true_eq]
        lia
      rw [List.countP_cons_of_neg (by simpa using ha), hz]
      refine ⟨fun _ h => (nomatch h), fun y hy => ?_⟩
      rw [List.drop_zero] at hy
      rcases List.mem_cons.mp hy with rfl | hy
      · lia
      · have := h.1 y hy; lia
theorem count_eq {row : List Int} (x : Int) : row.countP (fun y => decide (y < x)) = row.countP (fun y => decide (y ≤ x)) ↔ x ∉ row := by
  induction row with
  | nil => simp
  | cons a r ih =>
    have hle : r.countP (fun y => decide (y < x)) ≤ r.countP (fun y => decide (y ≤ x)) := List.countP_mono_left fun y _ h => by simp only [decide_eq_true_eq] at h ⊢; lia
    rcases Int.lt_trichotomy a x with h | h | h
    · rw [List.countP_cons_of_pos (by simpa using h), List.countP_cons_of_pos (by simp; lia), List.mem_cons]
      constructor
      · rintro e (q | q)
        · lia
        · exact ih.mp (by lia) q
      · intro e
        have := ih.mpr fun q => e (.inr q)
        lia
    · subst h
      rw [List.countP_cons_of_neg (by simp), List.countP_cons_of_pos (by simp)]
      constructor
      · intro e; lia
      · intro e; exact absurd (.head _) e
    · rw [List.countP_cons_of_neg (by simp; lia), List.countP_cons_of_neg (by simp; lia), List.mem_cons]
      constructor
      · rintro e (q | q)
        · lia
        · exact ih.mp e q
      · intro e
        exact ih.mpr fun q => e (.inr q)
theorem rowStep_sorted {row : List Int} (h : row.Pairwise (· < ·)) (x : Int) : (rowStep row x).Pairwise (· < ·) := by
  unfold rowStep
  split
  · rename_i e
    have hx := (count_eq x).mp e
    obtain ⟨h1, h2⟩ := sorted_cut h x
    generalize row.countP (fun y => decide (y < x)) = n at h1 h2
    have h3 : ∀ y ∈ row.drop n, x < y := fun y hy => by
      have a := h2 y hy
      have b : y ≠ x := fun q => hx (q ▸ List.mem_of_mem_drop hy)
      lia
    refine List.pairwise_append.mpr ⟨h.sublist (List.take_sublist _ _), List.pairwise_cons.mpr ⟨h3, h.sublist (List.drop_sublist _ _)⟩, fun y hy z hz => ?_⟩
    have a := h1 y hy
    rcases List.mem_cons.mp hz with rfl | hz
    · exact a
    · have := h3 z hz; lia
  · exact h
theorem rowStep_mem {row : List Int} (x y : Int) : y ∈ rowStep row x ↔ y = x ∨ y ∈ row := by
  unfold rowStep
  split
  · have e : y ∈ row ↔ y ∈ row.take (row.countP (fun y => decide (y < x))) ∨ y ∈ row.drop (row.countP (fun y => decide (y < x))) := by rw [← List.mem_append, List.take_append_drop]
    rw [List.mem_append, List.mem_cons, e]
    constructor
    · rintro (h | h | h)
      · exact .inr (.inl h)
      · exact .inl h
      · exact .inr (.inr h)
    · rintro (h | h | h)
      · exact .inr (.inl h)
      · exact .inl h
      · exact .inr (.inr h)
  · rename_i e
    have hx : x ∈ row := by
      by_cases q : x ∈ row
      · exact q
      · exact absurd ((count_eq x).mpr q) e
    exact ⟨.inr, fun h => h.elim (fun q => q ▸ hx) id⟩
theorem rowStep_len {row : List Int} (x : Int) : (rowStep row x).length ≤ row.length + 1 := by
  unfold rowStep
  split
  · rw [List.length_append, List.length_cons, List.length_take, List.length_drop]; lia
  · lia
theorem row_map {v u : Value} (y : Str) : (if y = Str.ofString "row" then some v else [(Str.ofString "near", u)].reverse.lookup y) = if y = Str.ofString "mark" then none else if y = Str.ofString "row" then some v else if y = Str.ofString "near" then some u else none := by
  simp only [List.reverse_cons, List.reverse_nil, List.nil_append, List.lookup_cons, List.lookup_nil]
  by_cases h1 : y = Str.ofString "row"
  · subst h1; rfl
  by_cases h2 : y = Str.ofString "near"
  · subst h2; rfl
  have b2 : (y == Str.ofString "near") = false := by simpa using h2
  simp only [h1, h2, b2, if_false, ite_self]
theorem fold_sorted : ∀ (ns row : List Int), row.Pairwise (· < ·) → (ns.foldl rowStep row).Pairwise (· < ·)
  | [], _, h => h
  | x :: ns, row, h => fold_sorted ns _ (rowStep_sorted h x)
theorem fold_mem (y : Int) : ∀ (ns row : List Int), y ∈ ns.foldl rowStep row ↔ y ∈ ns ∨ y ∈ row
  | [], _ => by simp
  | x :: ns, row => by
    rw [List.foldl_cons, fold_mem y ns, rowStep_mem, List.mem_cons]
    constructor
    · rintro (h | h | h)
      · exact .inl (.inr h)
      · exact .inl (.inl h)
      · exact .inr h
    · rintro ((h | h) | h)
      · exact .inr (.inl h)
      · exact .inl h
      · exact .inr (.inr h)
theorem fold_len : ∀ (ns row : List Int), (ns.foldl rowStep row).length ≤ row.length + ns.length
  | [], _ => Nat.le_refl _
  | x :: ns, row => by
    have h1 := fold_len ns (rowStep row x)
    have h2 := rowStep_len (row := row) x
    rw [List.foldl_cons, List.length_cons]
    lia
theorem upd_led {B h h' : Heap} {L M : Addr} {m : Str → Option Value} {o o' : Obj} {rest : List (Addr × Obj)} (F : Fr B L h m) (N : News B L h ((M, o) :: rest)) (hne : ∀ p ∈ rest, p.1 ≠ M) (hM : h'.get? M = some o') (k : ∀ b o, b ≠ M → h.get? b = some o → h'.get? b = some o) :
    Fr B L h' m ∧ News B L h' ((M, o') :: rest) := by
  have z := N (M, o) (.head _)
  refine ⟨Fr.but F (Ne.symm z.2.1) z.2.2 k, fun p hp => ?_⟩
  rcases List.mem_cons.mp hp with rfl | hp
  · exact ⟨hM, z.2⟩
  · exact ⟨k _ _ (hne p hp) (N p (.tail _ hp)).1, (N p (.tail _ hp)).2⟩
theorem row_mark {v u : Option Value} {m : Str → Option Value} (y : Str) : (if y = Str.ofString "mark" then v else (fun y => if y = Str.ofString "mark" then u else m y) y) = if y = Str.ofString "mark" then v else m y := by
  by_cases h1 : y = Str.ofString "mark"
  · rw [if_pos h1, if_pos h1]
  · rw [if_neg h1, if_neg h1]
    exact if_neg h1
namespace Ro
abbrev V : Type := (World) × (Nat) × (Option (List Env)) × (Option (List Code)) × (Nat) × (Shared) × (Program) × (List Str) × (ExcName → Option Value) × (Str → Option Value) × (Str → Option Value) × (Heap) × (Value → Shared → Prop) × (Value → Shared → Prop) × (Addr) × (List Value) × (Nat) × (List (List Int))
def Stmt (w : World) (dA : Nat) (fA : Option (List Env)) (gA : Option (List Code)) (uA : Nat) (s : Shared) (p : Program) (loose : List Str) (mean : ExcName → Option Value) (mg : Str → Option Value) (mb : Str → Option Value) (g : Heap) (Q : Value → Shared → Prop) (E : Value → Shared → Prop) (a : Addr) (rs : List Value) (na : Nat) (nss : List (List Int)) : Prop := ∀ (X : (hd.heap_1 w.params).In g) (T : Top p loose mean mg mb g) (hk : ∀ b o, g.get? b = some o → s.heap.get? b = some o) (hroom : dA + 20 < recursionLimit) (ha : s.heap.get? a = some (listOf rs.toArray na)) (hrs : Rows2 s.heap rs nss) (hlen : nss.flatten.length ≤ 500) (h : ∀ D vs nn h' tk, h'.get? D = some (listOf vs.toArray nn) → IntsAre vs (nss.flatten.foldl rowStep []) → s.heap.get? D = none → (∀ b o, s.heap.get? b = some o → h'.get? b = some o) → Q (.ref D) { s with heap := h', toks := tk }),
    wpAny (model PG w) (Around.mk none dA fA gA uA) (call (.ref 154) [.ref a]) Q E s
theorem ne : Nonempty V := ⟨((Classical.choice neW), 0, none, none, 0, {}, default, [], (fun _ => none), (fun _ => none), (fun _ => none), {}, (fun _ _ => True), (fun _ _ => True), 0, [], 0, [])⟩
noncomputable def c : V := pick ne fun v => Stmt v.1 v.2.1 v.2.2.1 v.2.2.2.1 v.2.2.2.2.1 v.2.2.2.2.2.1 v.2.2.2.2.2.2.1 v.2.2.2.2.2.2.2.1 v.2.2.2.2.2.2.2.2.1 v.2.2.2.2.2.2.2.2.2.1 v.2.2.2.2.2.2.2.2.2.2.1 v.2.2.2.2.2.2.2.2.2.2.2.1 v.2.2.2.2.2.2.2.2.2.2.2.2.1 v.2.2.2.2.2.2.2.2.2.2.2.2.2.1 v.2.2.2.2.2.2.2.2.2.2.2.2.2.2.1 v.2.2.2.2.2.2.2.2.2.2.2.2.2.2.2.1 v.2.2.2.2.2.2.2.2.2.2.2.2.2.2.2.2.1 v.2.2.2.2.2.2.2.2.2.2.2.2.2.2.2.2.2
@[irreducible] noncomputable def w : World := c.1
@[irreducible] noncomputable def dA : Nat := c.2.1
@[irreducible] noncomputable def fA : Option (List Env) := c.2.2.1
@[irreducible] noncomputable def gA : Option (List Code) := c.2.2.2.1
@[irreducible] noncomputable def uA : Nat := c.2.2.2.2.1
@[irreducible] noncomputable def s : Shared := c.2.2.2.2.2.1
@[irreducible] noncomputable def p : Program := c.2.2.2.2.2.2.1
@[irreducible] noncomputable def loose : List Str := c.2.2.2.2.2.2.2.1
@[irreducible] noncomputable def mean : ExcName → Option Value := c.2.2.2.2.2.2.2.2.1
@[irreducible] noncomputable def mg : Str → Option Value := c.2.2.2.2.2.2.2.2.2.1
@[irreducible] noncomputable def mb : Str → Option Value := c.2.2.2.2.2.2.2.2.2.2.1
@[irreducible] noncomputable def g : Heap := c.2.2.2.2.2.2.2.2.2.2.2.1
@[irreducible] noncomputable def Q : Value → Shared → Prop := c.2.2.2.2.2.2.2.2.2.2.2.2.1
@[irreducible] noncomputable def E : Value → Shared → Prop := c.2.2.2.2.2.2.2.2.2.2.2.2.2.1
@[irreducible] noncomputable def a : Addr := c.2.2.2.2.2.2.2.2.2.2.2.2.2.2.1
@[irreducible] noncomputable def rs : List Value := c.2.2.2.2.2.2.2.2.2.2.2.2.2.2.2.1
@[irreducible] noncomputable def na : Nat := c.2.2.2.2.2.2.2.2.2.2.2.2.2.2.2.2.1
@[irreducible] noncomputable def nss : List (List Int) := c.2.2.2.2.2.2.2.2.2.2.2.2.2.2.2.2.2
set_option maxHeartbeats 4000000 in
theorem spec_c : Stmt w dA fA gA uA s p loose mean mg mb g Q E a rs na nss := by
  intro X T hk hroom ha hrs hlen h
  refine wpAny_call ?_
  refine' enterC (K := hd.heap_1 w.params) X T hk (binds := [("near", .ref a)]) ?ho ?hcd ?hroom ?hb ?hloc ?c1 ?c2 ?c3 ?c4 ?_
  case ho => k_is
  case hcd => k_is
  case hroom => dsimp only; lia
  case hb => exact bindsTo_peek (X.keeps hk) (fun S => by kernel_rfl)
  case hloc => exact locs rfl
  case c1 => exact rfl
  case c2 => exact rfl
  case c3 => exact rfl
  case c4 => decide
  intro h₁ hns hk₁
  have F : Fr s.heap s.heap.objs.size h₁ _ := ⟨hns, hk₁, Nat.le_refl _⟩
  have N : News s.heap s.heap.objs.size h₁ [] := News.nil
  have X' := X.keeps hk
  have T' := T.keeps hk
  clear hns hk₁ X T
  k_steps
  rename Fr _ _ _ _ => F2'
  rename News _ _ _ _ => N2'
  rename Heap => h2
  obtain ⟨M, F2, N2⟩ : ∃ M, Fr s.heap s.heap.objs.size h2 (fun y => if y = Str.ofString "mark" then none else if y = Str.ofString "row" then some (.ref M) else if y = Str.ofString "near" then some (.ref a) else none) ∧
    News s.heap s.heap.objs.size h2 [(M, listOf #[] 0)] := ⟨_, Fr.congr F2' row_map, N2'⟩
  clear F2' N2'
  refine Stop.of ?_
  refine For_invV s.heap rfl rfl ?_
  refine flat_comp rfl rfl rfl (by decide) (by decide) rfl rfl (by decide) (by decide) ?_
  k_steps
  refine Stop.of ⟨a, rs, na, nss, rfl, F2.keep _ _ ha, ⟨hrs.1, fun i v e => ?_⟩, by rw [sizeLine_eq]; lia, fun D ys nn h3 tk3 k3 hDn hD hys => ?_⟩
  · obtain ⟨b, ws, nb, ns, e1, hb, hns, hws⟩ := hrs.2 i v e
    exact ⟨b, ws, nb, ns, e1, F2.keep _ _ hb, hns, hws⟩
  dsimp only at k3 hDn ⊢
  have F3 := F2.keeps k3
  have hDM : D ≠ M := fun q => by rw [q, N2.get (.head _)] at hDn; cases hDn
  have hDL : D ≠ s.heap.objs.size := fun q => by
    obtain ⟨o, _, _, ho, _⟩ := id F2.ns
    rw [q, ho] at hDn; cases hDn
  have hDb : s.heap.get? D = none := by
    cases e : s.heap.get? D with
    | none => rfl
    | some o => rw [F2.keep _ _ e] at hDn; cases hDn
  have N3 : News s.heap s.heap.objs.size h3 [(M, listOf #[] 0), (D, listOf ys.toArray nn)] := fun p hp => by
    simp only [List.mem_cons, List.not_mem_nil, or_false] at hp
    rcases hp with rfl | rfl
    · exact N2.keeps k3 _ (.head _)
    · exact ⟨hD, hDL, hDb⟩
  clear F2 N2 hDn
  refine kdl_iter (fun i m nx => ∃ vsr nr u, nx = [(M, listOf vsr.toArray nr), (D, listOf ys.toArray nn)] ∧ IntsAre vsr ((nss.flatten.take i).foldl rowStep []) ∧ m = (fun y => if y = Str.ofString "mark" then u else if y = Str.ofString "row" then some (.ref M) else if y = Str.ofString "near" then some (.ref a) else none))
    rfl (.tail _ (.head _)) F3 N3 ⟨[], 0, none, rfl, .nil, rfl⟩ ?turn ?done
  case done =>
    rintro m nx h5 tk5 ⟨vsr, nr, u, rfl, hI, rfl⟩ F5 N5
    dsimp only
    k_steps
    have hl : ys.length = nss.flatten.length := hys.length
    exact h M vsr nr _ _ (N5.get (.head _)) (by rw [List.take_of_length_le (by lia)] at hI; exact hI) (N5 _ (.head _)).2.2 F5.keep
  case turn =>
    rintro i v m nx h5 tk5 own hv hoff _ ⟨vsr, nr, u, rfl, hI, rfl⟩ F5 N5
    obtain ⟨x, t, rfl, hx⟩ := ints_at hys hv
    have F6 := Fr.congr F5 row_mark
    clear F5
    generalize hr : (nss.flatten.take i).foldl rowStep [] = row at hI
    have hso : row.Pairwise (· < ·) := hr ▸ fold_sorted _ [] List.Pairwise.nil
    have hrl : row.length ≤ 500 := by
      have := fold_len (nss.flatten.take i) []
      rw [hr, List.length_take] at this
      simp only [List.length_nil] at this
      lia
    have hvl := hI.length
    have hnext : (nss.flatten.take (i + 1)).foldl rowStep [] = rowStep row x := by
      rw [List.take_add_one, hx, List.foldl_append, hr]
      rfl
    have hst1 : Steps (fun y => decide (y < x)) row := Steps.of hso fun a b hab hq => by simp only [decide_eq_true_eq] at hq ⊢; lia
    have hst2 : Steps (fun y => decide (y ≤ x)) row := Steps.of hso fun a b hab hq => by simp only [decide_eq_true_eq] at hq ⊢; lia
    have hrest : ∀ p ∈ [(D, listOf ys.toArray nn)] ++ own, p.1 ≠ M := fun p hp => by
      rcases List.mem_append.mp hp with q | q
      · rw [List.mem_singleton.mp q]; exact hDM
      · exact hoff p q M (.head _)
    have hMb : s.heap.get? M = none := (N5 _ (.head _)).2.2
    k_steps
    refine Stop.of ?_
    refine bl_spec X' T' F6.keep rfl (by show dA + 1 + 5 < _; lia) ⟨_, N5.get (.head _), rfl, nr, rfl⟩ hI (by simp only [List.size_toArray]; lia) hst1 fun t1 h1 tk1 k1 => ?_
    have F7 := F6.keeps k1
    have N7 := N5.keeps k1
    clear F6 N5
    k_steps
    refine Stop.of ?_
    refine br_spec X' T' F7.keep rfl (by show dA + 1 + 5 < _; lia) ⟨_, N7.get (.head _), rfl, nr, rfl⟩ hI (by simp only [List.size_toArray]; lia) hst2 fun t2 h2 tk2 k2 => ?_
    have F8 := F7.keeps k2
    have N8 := N7.keeps k2
    clear F7 N7
    have fin : ∀ h9 tk9 vs9 n9 (s9 : Shared), Fr s.heap s.heap.objs.size h9 (fun y => if y = Str.ofString "mark" then some (.int x t) else if y = Str.ofString "row" then some (.ref M) else if y = Str.ofString "near" then some (.ref a) else none) →
        News s.heap s.heap.objs.size h9 ((M, listOf vs9 n9) :: ([(D, listOf ys.toArray nn)] ++ own)) → (∃ ws, vs9 = List.toArray ws ∧ IntsAre ws (rowStep row x)) →
        s9 = { s with heap := h5, toks := tk5 } →
        InvEndG s.heap s.heap.objs.size (fun m' nx => (D, listOf ys.toArray nn) ∈ nx ∧ ∃ vsr nr u, nx = [(M, listOf vsr.toArray nr), (D, listOf ys.toArray nn)] ∧ IntsAre vsr ((nss.flatten.take (i + 1)).foldl rowStep []) ∧
          m' = (fun y => if y = Str.ofString "mark" then u else if y = Str.ofString "row" then some (.ref M) else if y = Str.ofString "near" then some (.ref a) else none)) own s9 { s with heap := h9, toks := tk9 } := by
      rintro h9 tk9 vs9 n9 s9 F9 N9 ⟨ws, rfl, hws⟩ rfl
      exact InvEndG.intro F9 N9 (nx := [(M, listOf ws.toArray n9), (D, listOf ys.toArray nn)]) ⟨.tail _ (.head _), ws, n9, some (.int x t), rfl, by rw [hnext]; exact hws, rfl⟩ hoff (fun p hp => by
        simp only [List.mem_cons, List.not_mem_nil, or_false] at hp
        rcases hp with rfl | rfl
        · exact .head _
        · exact .tail _ (.head _)) (fun p hp => .tail _ (.tail _ hp))
    k_steps
    · refine Stop.of ?_
      rename (List.countP _ row : Int) = _ => he
      refine il_spec X' T' F8.keep hMb rfl (by show dA + 1 + 12 < _; lia) (N8.get (.head _)) hI (by lia) hst1 fun h9 tk9 ws n9 hw hM k9 => ?_
      obtain ⟨F9, N9⟩ := upd_led F8 N8 hrest hM k9
      k_steps
      refine Stop.of (fin _ _ _ _ _ F9 N9 ⟨ws, rfl, ?_⟩ rfl)
      unfold rowStep
      rw [if_pos (by lia)]
      exact hw
    · refine Stop.of ?_
      rename (List.countP _ row : Int) = _ => he
      refine ir_spec X' T' F8.keep hMb rfl (by show dA + 1 + 12 < _; lia) (N8.get (.head _)) hI (by lia) hst2 fun h9 tk9 ws n9 hw hM k9 => ?_
      obtain ⟨F9, N9⟩ := upd_led F8 N8 hrest hM k9
      k_steps
      refine Stop.of (fin _ _ _ _ _ F9 N9 ⟨ws, rfl, ?_⟩ rfl)
      have he' : List.countP (fun y => decide (y < x)) row = List.countP (fun y => decide (y ≤ x)) row := by lia
      unfold rowStep
      rw [if_pos he', he']
      exact hw
    · rename (List.countP _ row : Int) ≠ _ => he
      refine Stop.of (fin _ _ _ _ _ F8 N8 ⟨vsr, rfl, ?_⟩ rfl)
      unfold rowStep
      rw [if_neg (by lia)]
      exact hI
theorem all : Stmt c.1 c.2.1 c.2.2.1 c.2.2.2.1 c.2.2.2.2.1 c.2.2.2.2.2.1 c.2.2.2.2.2.2.1 c.2.2.2.2.2.2.2.1 c.2.2.2.2.2.2.2.2.1 c.2.2.2.2.2.2.2.2.2.1 c.2.2.2.2.2.2.2.2.2.2.1 c.2.2.2.2.2.2.2.2.2.2.2.1 c.2.2.2.2.2.2.2.2.2.2.2.2.1 c.2.2.2.2.2.2.2.2.2.2.2.2.2.1 c.2.2.2.2.2.2.2.2.2.2.2.2.2.2.1 c.2.2.2.2.2.2.2.2.2.2.2.2.2.2.2.1 c.2.2.2.2.2.2.2.2.2.2.2.2.2.2.2.2.1 c.2.2.2.2.2.2.2.2.2.2.2.2.2.2.2.2.2 := by
  have h := spec_c
  unfold w dA fA gA uA s p loose mean mg mb g Q E a rs na nss at h
  exact h
end Ro
theorem row_spec {w : World} {A : Around} {s : Shared} {p : Program} {loose : List Str} {mean : ExcName → Option Value} {mg mb : Str → Option Value} {g : Heap}
    {Q E : Value → Shared → Prop} {a : Addr} {rs : List Value} {na : Nat} {nss : List (List Int)}
    (X : (hd.heap_1 w.params).In g) (T : Top p loose mean mg mb g) (hk : ∀ b o, g.get? b = some o → s.heap.get? b = some o)
    (hh : A.handled = none) (hroom : A.depth + 20 < recursionLimit) (ha : s.heap.get? a = some (listOf rs.toArray na)) (hrs : Rows2 s.heap rs nss) (hlen : nss.flatten.length ≤ 500)
    (h : ∀ D vs nn h' tk, h'.get? D = some (listOf vs.toArray nn) → IntsAre vs (nss.flatten.foldl rowStep []) → s.heap.get? D = none → (∀ b o, s.heap.get? b = some o → h'.get? b = some o) → Q (.ref D) { s with heap := h', toks := tk }) :
    wpAny (model PG w) A (call (.ref 154) [.ref a]) Q E s := by
  obtain ⟨hA, dA, fA, gA, uA⟩ := A
  dsimp only at hh
  subst hh
  exact of_pick Ro.ne (fun v => Ro.Stmt v.1 v.2.1 v.2.2.1 v.2.2.2.1 v.2.2.2.2.1 v.2.2.2.2.2.1 v.2.2.2.2.2.2.1 v.2.2.2.2.2.2.2.1 v.2.2.2.2.2.2.2.2.1 v.2.2.2.2.2.2.2.2.2.1 v.2.2.2.2.2.2.2.2.2.2.1 v.2.2.2.2.2.2.2.2.2.2.2.1 v.2.2.2.2.2.2.2.2.2.2.2.2.1 v.2.2.2.2.2.2.2.2.2.2.2.2.2.1 v.2.2.2.2.2.2.2.2.2.2.2.2.2.2.1 v.2.2.2.2.2.2.2.2.2.2.2.2.2.2.2.1 v.2.2.2.2.2.2.2.2.2.2.2.2.2.2.2.2.1 v.2.2.2.2.2.2.2.2.2.2.2.2.2.2.2.2.2) Ro.all (w, dA, fA, gA, uA, s, p, loose, mean, mg, mb, g, Q, E, a, rs, na, nss) X T hk hroom ha hrs hlen h
end RS
end PartR1

section PartPL
open PySem PySem.W PyProof.Rows
set_option Elab.async false
namespace RS
/-- strictly sorted lists with like members are like -/
theorem sorted_ext : ∀ {xs ys : List Int}, xs.Pairwise (· < ·) → ys.Pairwise (· < ·) → (∀ y, y ∈ xs ↔ y ∈ ys) → xs = ys
  | [], [], _, _, _ => rfl
  | [], y :: ys, _, _, h => by have := (h y).mpr (.head _); cases this
  | x :: xs, [], _, _, h => by have := (h x).mp (.head _); cases this
  | x :: xs, y :: ys, hx, hy, h => by
    rw [List.pairwise_cons] at hx hy
    have e : x = y := by
      have h1 := (h x).mp (.head _)
      have h2 := (h y).mpr (.head _)
      rcases List.mem_cons.mp h1 with h1 | h1
      · exact h1
      · rcases List.mem_cons.mp h2 with h2 | h2
        · exact h2.symm
        · have := hx.1 y h2; have := hy.1 x h1; lia
    subst e
    rw [sorted_ext hx.2 hy.2 fun z => ?_]
    constructor
    · intro hz
      rcases List.mem_cons.mp ((h z).mp (.tail _ hz)) with q | q
      · have := hx.1 z hz; lia
      · exact q
    · intro hz
      rcases List.mem_cons.mp ((h z).mpr (.tail _ hz)) with q | q
      · have := hy.1 z hz; lia
      · exact q
theorem range_sorted {f : Nat → Int} (hf : ∀ i j : Nat, i < j → f i < f j) (n : Nat) (p : Nat → Bool) : (((List.range n).filter p).map f).Pairwise (· < ·) := by
  rw [List.pairwise_map]
  refine (List.Pairwise.filter p (List.pairwise_lt_range (n := n))).imp fun {a b} h => hf a b h
theorem mks_sorted {f k b : Nat} (hk : 1 ≤ k) : (mksOf f k b).Pairwise (· < ·) := by
  unfold mksOf
  split
  · rw [List.pairwise_map]
    refine (List.pairwise_lt_range).imp fun {i j} h => ?_
    have : k * i + k ≤ k * j := by rw [← Nat.mul_succ]; exact Nat.mul_le_mul_left _ h
    lia
  · exact .nil
theorem mks_mem {f k b : Nat} (hf : 1 ≤ f) (hfk : f ≤ k) (y : Int) : y ∈ mksOf f k b ↔ 1 ≤ y ∧ y ≤ b ∧ (y - f) % k = 0 := by
  have hk : 1 ≤ k := by lia
  unfold mksOf
  constructor
  · intro h
    split at h
    · rename_i hb
      obtain ⟨i, hi, rfl⟩ := List.mem_map.mp h
      rw [List.mem_range] at hi
      have h1 : k * i ≤ b - f := by
        have : i ≤ (b - f) / k := by lia
        exact Nat.le_trans (Nat.mul_le_mul_left k this) (Nat.mul_div_le _ _)
      refine ⟨by lia, by lia, ?_⟩
      rw [show ((f + k * i : Nat) : Int) - f = (k : Int) * i by rw [Int.natCast_add, Int.natCast_mul]; lia]
      exact Int.mul_emod_right _ _
    · cases h
  · rintro ⟨y1, y2, y3⟩
    obtain ⟨q, hq⟩ := Int.dvd_of_emod_eq_zero y3
    have hq0 : 0 ≤ q := by
      rcases Int.lt_or_le q 0 with h | h
      · exfalso
        have : (k : Int) * q ≤ k * (-1) := Int.mul_le_mul_of_nonneg_left (by lia) (by lia)
        lia
      · exact h
    obtain ⟨i, rfl⟩ := Int.eq_ofNat_of_zero_le hq0
    have e : y = ((f + k * i : Nat) : Int) := by rw [Int.natCast_add, Int.natCast_mul]; lia
    have hle : f + k * i ≤ b := by lia
    rw [if_pos (by lia)]
    refine List.mem_map.mpr ⟨i, ?_, e.symm⟩
    rw [List.mem_range]
    have : i ≤ (b - f) / k := (Nat.le_div_iff_mul_le (by lia)).mpr (by rw [Nat.mul_comm]; lia)
    lia
theorem mks_filter {f k b : Nat} (hf : 1 ≤ f) (hfk : f ≤ k) : ((List.range b).filter fun j : Nat => decide ((1 + (j : Int) - f) % k = 0)).map (fun j : Nat => 1 + (j : Int)) = mksOf f k b := by
  refine sorted_ext (range_sorted (fun i j h => by lia) _ _) (mks_sorted (by lia)) fun y => ?_
  rw [mks_mem hf hfk]
  constructor
  · intro h
    obtain ⟨j, hj, rfl⟩ := List.mem_map.mp h
    rw [List.mem_filter, List.mem_range] at hj
    exact ⟨by lia, by lia, of_decide_eq_true hj.2⟩
  · rintro ⟨y1, y2, y3⟩
    refine List.mem_map.mpr ⟨(y - 1).toNat, ?_, by lia⟩
    rw [List.mem_filter, List.mem_range]
    refine ⟨by lia, decide_eq_true ?_⟩
    rw [show 1 + (((y - 1).toNat : Nat) : Int) - f = y - f by lia]
    exact y3
theorem map_getD {α β : Type} [Inhabited α] {d : α} (ps : List α) (F : α → β) : (List.range ps.length).map (fun i => F (ps.getD i d)) = ps.map F := by
  apply List.ext_getElem?
  intro i
  rw [List.getElem?_map, List.getElem?_map]
  by_cases h : i < ps.length
  · rw [List.getElem?_range h, List.getElem?_eq_getElem h]
    simp [List.getD_eq_getElem?_getD, List.getElem?_eq_getElem h]
  · rw [List.getElem?_eq_none (by simpa using h), List.getElem?_eq_none (by lia)]; rfl
def onAny (ps : List (Int × Int)) (y : Int) : Bool := ps.any fun q => decide ((y - q.1) % q.2 = 0)
def rowOf (ps : List (Int × Int)) (bd : Nat) : List Int := ((List.range bd).filter fun j : Nat => onAny ps (1 + (j : Int))).map fun j : Nat => 1 + (j : Int)
theorem row_mem {ps : List (Int × Int)} {bd : Nat} {y : Int} : y ∈ rowOf ps bd ↔ 1 ≤ y ∧ y ≤ bd ∧ onAny ps y = true := by
  unfold rowOf
  constructor
  · intro h
    obtain ⟨j, hj, rfl⟩ := List.mem_map.mp h
    rw [List.mem_filter, List.mem_range] at hj
    exact ⟨by lia, by lia, hj.2⟩
  · rintro ⟨y1, y2, y3⟩
    refine List.mem_map.mpr ⟨(y - 1).toNat, ?_, by lia⟩
    rw [List.mem_filter, List.mem_range]
    refine ⟨by lia, ?_⟩
    rw [show 1 + (((y - 1).toNat : Nat) : Int) = y by lia]
    exact y3
theorem row_sorted (ps : List (Int × Int)) (bd : Nat) : (rowOf ps bd).Pairwise (· < ·) := range_sorted (fun i j h => by lia) _ _
theorem mks_len_le {f k b : Nat} (hf : 1 ≤ f) : (mksOf f k b).length ≤ b := by
  unfold mksOf
  split
  · rw [List.length_map, List.length_range]
    have : (b - f) / k ≤ b - f := Nat.div_le_self _ _
    lia
  · exact Nat.zero_le _
theorem flat_len {bd : Nat} : ∀ {ps : List (Int × Int)}, (∀ p ∈ ps, 1 ≤ p.1 ∧ p.1 ≤ p.2 ∧ p.2 ≤ 60) → (ps.map fun q => mksOf q.1.toNat q.2.toNat bd).flatten.length ≤ ps.length * bd
  | [], _ => Nat.zero_le _
  | p :: ps, h => by
    have ih := flat_len (bd := bd) (ps := ps) fun q hq => h q (.tail _ hq)
    have h1 := h p (.head _)
    have h2 := mks_len_le (f := p.1.toNat) (k := p.2.toNat) (b := bd) (by lia)
    rw [List.map_cons, List.flatten_cons, List.length_append, List.length_cons, Nat.succ_mul]
    lia
theorem row_fold {ps : List (Int × Int)} {bd : Nat} (hfin : RFin ps) : (ps.map fun q => mksOf q.1.toNat q.2.toNat bd).flatten.foldl rowStep [] = rowOf ps bd := by
  refine sorted_ext (fold_sorted _ _ .nil) (row_sorted ps bd) fun y => ?_
  rw [fold_mem, row_mem]
  simp only [List.not_mem_nil, or_false, List.mem_flatten, List.mem_map]
  unfold onAny
  rw [List.any_eq_true]
  constructor
  · rintro ⟨_, ⟨q, hq, rfl⟩, hy⟩
    obtain ⟨r1, r2, r3⟩ := hfin.2 q hq
    obtain ⟨a, b, c⟩ := (mks_mem (by lia) (by lia) y).mp hy
    rw [Int.toNat_of_nonneg (by lia), Int.toNat_of_nonneg (by lia)] at c
    exact ⟨a, b, q, hq, decide_eq_true c⟩
  · rintro ⟨a, b, q, hq, c⟩
    obtain ⟨r1, r2, r3⟩ := hfin.2 q hq
    refine ⟨_, ⟨q, hq, rfl⟩, (mks_mem (by lia) (by lia) y).mpr ⟨a, b, ?_⟩⟩
    rw [Int.toNat_of_nonneg (by lia), Int.toNat_of_nonneg (by lia)]
    exact of_decide_eq_true c
theorem row_len (ps : List (Int × Int)) (bd : Nat) : (rowOf ps bd).length ≤ bd := by
  unfold rowOf
  rw [List.length_map]
  exact Nat.le_trans (List.length_filter_le _ _) (by simp)
theorem gap_mono {row : List Int} (h : row.Pairwise (· < ·)) : ∀ (i j : Nat), i ≤ j → j < row.length → row.getD i 0 - (i : Int) ≤ row.getD j 0 - (j : Int) := by
  intro i j hij hj
  induction j with
  | zero => rw [show i = 0 by lia]; lia
  | succ j ih =>
    by_cases h1 : i = j + 1
    · rw [h1]; lia
    · have h2 := ih (by lia) (by lia)
      have h3 : row.getD j 0 < row.getD (j + 1) 0 := by
        rw [List.getD_eq_getElem?_getD, List.getD_eq_getElem?_getD, List.getElem?_eq_getElem (by lia), List.getElem?_eq_getElem hj]
        exact (List.pairwise_iff_getElem.mp h) j (j + 1) (by lia) hj (by lia)
      lia
theorem gap_steps {row : List Int} (h : row.Pairwise (· < ·)) : Steps (fun y => decide (y ≤ 0)) ((List.range row.length).map fun v => row.getD v 0 - (v : Int) - 1) := by
  intro i j hij y z hy hz hq
  rw [List.getElem?_map] at hy hz
  obtain ⟨i', hi', rfl⟩ := Option.map_eq_some_iff.mp hy
  obtain ⟨j', hj', rfl⟩ := Option.map_eq_some_iff.mp hz
  obtain ⟨q1, rfl⟩ := List.getElem?_eq_some_iff.mp hi'
  obtain ⟨q2, rfl⟩ := List.getElem?_eq_some_iff.mp hj'
  simp only [List.getElem_range, decide_eq_true_eq] at hq ⊢
  have := gap_mono h i j hij (by simpa using q2)
  lia
def reachOf (row : List Int) : Nat := ((List.range row.length).map fun v => row.getD v 0 - (v : Int) - 1).countP fun y => decide (y ≤ 0)
theorem steps_cut {q : Int → Bool} : ∀ {ns : List Int}, Steps q ns → (∀ i : Nat, i < ns.countP q → ∀ y, ns[i]? = some y → q y = true) ∧ (∀ i : Nat, ns.countP q ≤ i → ∀ y, ns[i]? = some y → q y = false)
  | [], _ => ⟨fun i _ y h => by simp at h, fun i _ y h => by simp at h⟩
  | a :: r, hs => by
    have hr : Steps q r := fun i j hij x y hx hy hq => hs (i + 1) (j + 1) (by lia) x y (by simpa using hx) (by simpa using hy) hq
    obtain ⟨h1, h2⟩ := steps_cut hr
    cases ha : q a with
    | true =>
      rw [List.countP_cons_of_pos ha]
      refine ⟨fun i hi y hy => ?_, fun i hi y hy => ?_⟩
      · cases i with
        | zero => cases hy; exact ha
        | succ i => exact h1 i (by lia) y (by simpa using hy)
      · cases i with
        | zero => lia
        | succ i => exact h2 i (by lia) y (by simpa using hy)
    | false =>
      have hz : ∀ (i : Nat) y, (a :: r)[i]? = some y → q y = false := fun i y hy => by
        cases hq : q y with
        | false => rfl
        | true => rw [hs 0 i (by lia) a y rfl hy hq] at ha; cases ha
      have hc : (a :: r).countP q = 0 := by
        rw [List.countP_eq_zero]
        intro y hy
        obtain ⟨i, hi⟩ := List.mem_iff_getElem?.mp hy
        simp [hz i y hi]
      rw [hc]
      exact ⟨fun i hi => by lia, fun i _ y hy => hz i y hy⟩
theorem row_low {row : List Int} (h : row.Pairwise (· < ·)) (h1 : ∀ y ∈ row, 1 ≤ y) (i : Nat) (hi : i < row.length) : (i : Int) + 1 ≤ row.getD i 0 := by
  have h2 := gap_mono h 0 i (by lia) hi
  have h3 := h1 (row.getD 0 0) (by rw [List.getD_eq_getElem?_getD, List.getElem?_eq_getElem (by lia)]; exact List.getElem_mem _)
  lia
theorem reach_spec {row : List Int} (h : row.Pairwise (· < ·)) (h1 : ∀ y ∈ row, 1 ≤ y) : reachOf row ≤ row.length ∧ row.take (reachOf row) = (List.range (reachOf row)).map (fun j : Nat => 1 + (j : Int)) ∧ ((reachOf row : Int) + 1) ∉ row := by
  have hle : reachOf row ≤ row.length := by
    unfold reachOf
    exact Nat.le_trans List.countP_le_length (by simp)
  obtain ⟨c1, c2⟩ := steps_cut (gap_steps h)
  change (∀ i : Nat, i < reachOf row → _) at c1
  change (∀ i : Nat, reachOf row ≤ i → _) at c2
  have hget : ∀ i, i < row.length → ((List.range row.length).map fun v => row.getD v 0 - (v : Int) - 1)[i]? = some (row.getD i 0 - (i : Int) - 1) := fun i hi => by rw [List.getElem?_map, List.getElem?_range hi]; rfl
  refine ⟨hle, ?_, fun hm => ?_⟩
  · apply List.ext_getElem?
    intro i
    by_cases hi : i < reachOf row
    · have e1 := of_decide_eq_true (c1 i hi _ (hget i (by lia)))
      have e2 := row_low h h1 i (by lia)
      rw [List.getElem?_take_of_lt hi, List.getElem?_map, List.getElem?_range hi, List.getElem?_eq_getElem (by lia)]
      have e3 : row.getD i 0 = row[i]'(by lia) := by rw [List.getD_eq_getElem?_getD, List.getElem?_eq_getElem (by lia)]; rfl
      show some _ = some (1 + (i : Int))
      congr 1
      lia
    · rw [List.getElem?_eq_none (by rw [List.length_take]; lia), List.getElem?_eq_none (by simp; lia)]
  · obtain ⟨i, hi⟩ := List.mem_iff_getElem?.mp hm
    obtain ⟨hi2, hi3⟩ := List.getElem?_eq_some_iff.mp hi
    have e3 : row.getD i 0 = (reachOf row : Int) + 1 := by rw [List.getD_eq_getElem?_getD, hi]; rfl
    have e2 := row_low h h1 i hi2
    by_cases hc : i < reachOf row
    · have e1 := of_decide_eq_true (c1 i hc _ (hget i hi2))
      lia
    · have e1 := of_decide_eq_false (c2 i (by lia) _ (hget i hi2))
      lia
theorem row_pos {ps : List (Int × Int)} {bd : Nat} : ∀ y ∈ rowOf ps bd, 1 ≤ y := fun y hy => (row_mem.mp hy).1
theorem row_any {ps : List (Int × Int)} {bd rc : Nat} (h : reachOf (rowOf ps bd) = rc) : (rowOf ps bd).any (· == ((rc : Int) + 1)) = false := by
  have := (reach_spec (row_sorted ps bd) row_pos).2.2
  rw [h] at this
  rw [List.any_eq_false]
  intro y hy
  simp only [beq_iff_eq]
  intro e
  exact this (e ▸ hy)
theorem stop_eq {n f k : Nat} (hf : 1 ≤ f) (hfk : f ≤ k) : ((f : Int) + (2 + k * ((if n < f then 1 else (n - f) / k + 2 : Nat) : Int))) - k - 2 = ((n + 1 : Nat) : Int) + ((f : Int) - ((n + 1 : Nat) : Int)) % k := by
  by_cases h : n < f
  · rw [if_pos h, Int.emod_eq_of_lt (by lia) (by lia)]
    lia
  · rw [if_neg h]
    have e1 := Nat.div_add_mod (n - f) k
    have e2 := Nat.mod_lt (n - f) (show k > 0 by lia)
    generalize (n - f) / k = q at *
    generalize (n - f) % k = r at *
    have e3 : ((f : Int) - ((n + 1 : Nat) : Int)) = ((k : Int) - ((r : Int) + 1)) + (k : Int) * (-(q : Int) - 1) := by
      have e4 : ((n - f : Nat) : Int) = (k : Int) * q + r := by rw [← e1]; simp
      rw [Int.mul_sub, Int.mul_neg]
      lia
    rw [e3, Int.add_mul_emod_self_left, Int.emod_eq_of_lt (by lia) (by lia)]
    have e4 : ((n - f : Nat) : Int) = (k : Int) * q + r := by rw [← e1]; simp
    rw [Int.natCast_add, Int.mul_add]
    lia
theorem bis_lt {row : List Int} (c : Int) : decide (((row.countP fun y => decide (y < c) : Nat) : Int) < ((row.countP fun y => decide (y ≤ c) : Nat) : Int)) = decide (c ∈ row) := by
  have hle : row.countP (fun y => decide (y < c)) ≤ row.countP (fun y => decide (y ≤ c)) := List.countP_mono_left fun y _ h => by simp only [decide_eq_true_eq] at h ⊢; lia
  have he := count_eq (row := row) c
  rw [decide_eq_decide]
  constructor
  · intro h
    apply Classical.byContradiction
    intro hc
    have := he.mpr hc
    lia
  · intro h
    have : ¬ row.countP (fun y => decide (y < c)) = row.countP (fun y => decide (y ≤ c)) := fun e => he.mp e h
    lia
theorem bis_mks {q : Int × Int} {bd : Nat} {c : Int} (h1 : 1 ≤ q.1) (h2 : q.1 ≤ q.2) (hc : 1 ≤ c) (hc2 : c ≤ bd) : decide (c ∈ mksOf q.1.toNat q.2.toNat bd) = decide ((c - q.1) % q.2 = 0) := by
  rw [decide_eq_decide, mks_mem (by lia) (by lia), Int.toNat_of_nonneg (by lia), Int.toNat_of_nonneg (by lia)]
  exact ⟨fun h => h.2.2, fun h => ⟨hc, hc2, h⟩⟩
theorem stop_is {c f k : Int} (hk : 1 ≤ k) : (c + (f - c) % k == c) = decide ((c - f) % k = 0) := by
  show decide (c + (f - c) % k = c) = _
  rw [decide_eq_decide]
  constructor
  · intro h
    have h1 : (f - c) % k = 0 := by lia
    obtain ⟨q, hq⟩ := Int.dvd_of_emod_eq_zero h1
    rw [show c - f = k * (-q) by rw [Int.mul_neg, ← hq]; lia]
    exact Int.mul_emod_right _ _
  · intro h
    obtain ⟨q, hq⟩ := Int.dvd_of_emod_eq_zero h
    rw [show f - c = k * (-q) by rw [Int.mul_neg, ← hq]; lia, Int.mul_emod_right]
    lia
end RS
end PartPL

theorem RS.forgetW6 {prog : PySem.Program} {w : PySem.World} {A : PySem.Around} {env : PySem.Env} {Q : PySem.Flow → PySem.Shared → Prop} {E : PySem.Value → PySem.Shared → Prop} {s : PySem.Shared}
    (h : PySem.wpAny (PySem.model prog w) A (PySem.execs [] env) Q E s) : PySem.wpAny (PySem.model prog w) A (PySem.execs [] env) Q E s := by
  first | (walk1; fail "no") | skip
  w_top off
  exact h

section PartW6
open PySem PySem.W PyProof.Rows PySem.Calls
set_option Elab.async false
set_option maxRecDepth 100000
namespace RS
theorem fillT6 : (fun (_ : Params → Frag) (_ : OpenLaw) => True) hd.heap_1 PySem.Challenge.rw_rs0192_01 := by
  k_fill
  trivial
local macro_rules | `(tactic| walk_at $k:str) => if ["exec While", "exec While BoolOp", "KswEnd"].contains k.getString then `(tactic| (refine Stop.of ?_)) else Lean.Macro.throwUnsupported
theorem item_str {prog : Program} {w : World} {A : Around} {E : Value → Shared → Prop} {s : Shared} {value slice : PySem.Expr} {x : Str} {t u : Tok} {k : Int} {c : Nat} {Q : Value → Shared → Prop}
    (h0 : 0 ≤ k) (hfit : k < 2 ^ 63) (hc : x.cps[k.toNat]? = some c) (h : Q (.str ⟨#[c]⟩ s.toks) { s with toks := s.toks + 1 })
    (hs : subscripted slice false (.str x t) (.int k u) = operate [.str x t, .int k u] (getItem (.str x t) (.int k u)) := by with_unfolding_all rfl) (hg : ∀ r, letTemporaryGo value (.str x t) r = pure () := by intro _; with_unfolding_all rfl) :
    wpAny (model prog w) A (subscriptTail value slice (.str x t) (.int k u)) Q E s := by
  refine subscriptTail_builtin (typeIs_str s x t) F.slot_str_getitem.lookup (P.getItem_str ?_ ?_ h) hs hg
  · simp only [Bool.or_eq_false_iff, decide_eq_false_iff_not]; lia
  · have hl : k.toNat < x.cps.size := (Array.getElem?_eq_some_iff.mp hc).1
    have e : seqIndex? k x.length = some k.toNat := by
      unfold seqIndex?
      have hl' : k.toNat < x.length := hl
      have h1 : ¬ k < 0 := by lia
      simp only [h1, if_false]
      rw [if_pos (by simp only [Bool.and_eq_true, decide_eq_true_eq]; lia)]
    rw [e]; exact hc
local macro_rules | `(tactic| walk_at "subscriptTail") => `(tactic| (k_here; (with_reducible show wpAny _ _ (subscriptTail _ _ (Value.str _ _) (Value.int _ _)) _ _ _); (refine item_str (by omega) (by omega) (by assumption) ?_)))
local macro_rules | `(tactic| walk_at "subscriptTail") => `(tactic| (k_here; (with_reducible show wpAny _ _ (subscriptTail _ _ (Value.str _ _) (Value.ref _)) _ _ _); (refine Stop.of ?_)))
namespace Sp
abbrev V : Type := (World) × (Around) × (Shared) × (Program) × (List Str) × (ExcName → Option Value) × (Str → Option Value) × (Str → Option Value) × (Heap) × (Value → Shared → Prop) × (Value → Shared → Prop) × (Nat) × (Nat) × (Tok) × (Tok)
def Stmt (w : World) (A : Around) (s : Shared) (p : Program) (loose : List Str) (mean : ExcName → Option Value) (mg : Str → Option Value) (mb : Str → Option Value) (g : Heap) (Q : Value → Shared → Prop) (E : Value → Shared → Prop) (n : Nat) (k : Nat) (tx : Tok) (tk : Tok) : Prop := ∀ (X : (hd.heap_1 w.params).In g) (T : Top p loose mean mg mb g) (hk : ∀ b o, g.get? b = some o → s.heap.get? b = some o) (hh : A.handled = none) (hroom : A.depth + 5 < recursionLimit) (hn : n ≤ 1000) (h : ∀ t h' tk, (∀ b o, s.heap.get? b = some o → h'.get? b = some o) → Q (.str (txt (n - k)) t) { s with heap := h', toks := tk }),
    wpAny (model PG w) A (call (.ref 35) [.str (txt n) tx, .int (k : Int) tk]) Q E s
theorem ne : Nonempty V := ⟨((Classical.choice neW), {}, {}, default, [], (fun _ => none), (fun _ => none), (fun _ => none), {}, (fun _ _ => True), (fun _ _ => True), 0, 0, 0, 0)⟩
noncomputable def c : V := pick ne fun v => Stmt v.1 v.2.1 v.2.2.1 v.2.2.2.1 v.2.2.2.2.1 v.2.2.2.2.2.1 v.2.2.2.2.2.2.1 v.2.2.2.2.2.2.2.1 v.2.2.2.2.2.2.2.2.1 v.2.2.2.2.2.2.2.2.2.1 v.2.2.2.2.2.2.2.2.2.2.1 v.2.2.2.2.2.2.2.2.2.2.2.1 v.2.2.2.2.2.2.2.2.2.2.2.2.1 v.2.2.2.2.2.2.2.2.2.2.2.2.2.1 v.2.2.2.2.2.2.2.2.2.2.2.2.2.2
@[irreducible] noncomputable def w : World := c.1
@[irreducible] noncomputable def A : Around := c.2.1
@[irreducible] noncomputable def s : Shared := c.2.2.1
@[irreducible] noncomputable def p : Program := c.2.2.2.1
@[irreducible] noncomputable def loose : List Str := c.2.2.2.2.1
@[irreducible] noncomputable def mean : ExcName → Option Value := c.2.2.2.2.2.1
@[irreducible] noncomputable def mg : Str → Option Value := c.2.2.2.2.2.2.1
@[irreducible] noncomputable def mb : Str → Option Value := c.2.2.2.2.2.2.2.1
@[irreducible] noncomputable def g : Heap := c.2.2.2.2.2.2.2.2.1
@[irreducible] noncomputable def Q : Value → Shared → Prop := c.2.2.2.2.2.2.2.2.2.1
@[irreducible] noncomputable def E : Value → Shared → Prop := c.2.2.2.2.2.2.2.2.2.2.1
@[irreducible] noncomputable def n : Nat := c.2.2.2.2.2.2.2.2.2.2.2.1
@[irreducible] noncomputable def k : Nat := c.2.2.2.2.2.2.2.2.2.2.2.2.1
@[irreducible] noncomputable def tx : Tok := c.2.2.2.2.2.2.2.2.2.2.2.2.2.1
@[irreducible] noncomputable def tk : Tok := c.2.2.2.2.2.2.2.2.2.2.2.2.2.2
set_option maxHeartbeats 4000000 in
theorem spec_c : Stmt w A s p loose mean mg mb g Q E n k tx tk := by
  intro X T hk hh hroom hn h
  refine wpAny_call ?_
  refine' enterC (K := hd.heap_1 w.params) X T hk (binds := [("s", .str (txt n) tx), ("amount", .int (k : Int) tk)]) ?ho ?hcd ?hroom ?hb ?hloc ?c1 ?c2 ?c3 ?c4 ?_
  case ho => k_is
  case hcd => k_is
  case hroom => lia
  case hb => exact bindsTo_peek (X.keeps hk) (fun S => by kernel_rfl)
  case hloc => exact locs rfl
  case c1 => exact rfl
  case c2 => exact rfl
  case c3 => exact rfl
  case c4 => decide
  intro h₁ hns hk₁
  have F : Fr s.heap s.heap.objs.size h₁ _ := ⟨hns, hk₁, Nat.le_refl _⟩
  have N : News s.heap s.heap.objs.size h₁ [] := News.nil
  have X' := X.keeps hk
  have T' := T.keeps hk
  clear hns hk₁ X T
  k_steps
  unfold Stop
  rename Fr _ _ _ _ => F'
  rename News _ _ _ _ => N'
  refine' wpAny_mono (Q := fun f s' => Stop (f = .next ∧ ∃ lp am t1 t2 h' tk, s' = { s with heap := h', toks := tk } ∧ 0 ≤ lp ∧ lp ≤ (n : Int) ∧ lp + am = (k : Int) ∧ 0 ≤ am ∧ (am = 0 ∨ lp = n) ∧ Fr s.heap s.heap.objs.size h' (fun y => if y = Str.ofString "lpos" then some (.int lp t1) else if y = Str.ofString "amount" then some (.int am t2) else if y = Str.ofString "s" then some (.str (txt n) tx) else none)))
    (ksw_while (fun _ => []) (fun c : Int × Int × Nat × Nat => [("lpos", .int c.1 c.2.2.1), ("amount", .int c.2.1 c.2.2.2)]) (fun _ => True) [] (fun c => 0 ≤ c.1 ∧ c.1 ≤ n ∧ c.1 + c.2.1 = k ∧ 0 ≤ c.2.1) (fun c => c.2.1.toNat) (0, (k : Int), ?z1, tk) F' N' trivial ?hk ?hp ?turn PassesOwn.never) ?_ (fun _ _ x => x)
  case hk => kst_all
  case hp => dsimp only; lia
  case turn =>
    rintro ⟨lp, am, t1, t2⟩ kU kH kTk _ hI kF kN
    simp only [kstB] at kF
    dsimp only at hI kF ⊢
    obtain ⟨b1, b2, b3, b4⟩ := hI
    by_cases hlt : lp < n
    · have hc : (txt n).cps[lp.toNat]? = some 32 := txt_blank (by lia)
      k_steps
      · rename Fr _ _ _ _ => F9
        rename News _ _ _ _ => N9
        unfold Stop
        exact ksw_end (_, _, _, _) F9 N9 (fun _ h => nomatch h) trivial (by kst_all) (by ksw_same) (by dsimp only; lia) (by dsimp only; lia)
      · unfold Stop
        refine ⟨rfl, lp, am, t1, t2, kH, kTk, rfl, b1, b2, b3, b4, .inl (by lia), Fr.congr kF fun y => ?_⟩
        simp only [List.contains_nil, Bool.false_eq_true, if_false, List.reverse_cons, List.reverse_nil, List.nil_append, List.cons_append, List.lookup_cons, List.lookup_nil]
        (repeat' split) <;> simp_all
    · have hc : (txt n).cps[lp.toNat]? = some 9 := by
        have e : lp.toNat = n + 0 := by lia
        rw [e, txt_at]; rfl
      k_steps
      all_goals (
        unfold Stop
        refine ⟨rfl, lp, am, t1, t2, kH, _, rfl, b1, b2, b3, b4, .inr (by lia), Fr.congr kF fun y => ?_⟩
        simp only [List.contains_nil, Bool.false_eq_true, if_false, List.reverse_cons, List.reverse_nil, List.nil_append, List.cons_append, List.lookup_cons, List.lookup_nil]
        ((repeat' split) <;> simp_all))
  rintro f s' ⟨rfl, lp, am, t1, t2, h3, tk3, rfl, b1, b2, b3, b4, b5, F3⟩
  have N3 : News s.heap s.heap.objs.size h3 [] := News.nil
  k_steps
  refine P.len_str (by rw [txt_len]; lia) ?_
  rw [txt_len]
  k_steps
  unfold Stop
  rename Fr _ _ _ _ => F4
  rename News _ _ _ _ => N4
  have hc : (txt n).cps[((n : Int) + 4).toNat]? = some 120 := by
    have e : ((n : Int) + 4).toNat = n + 4 := by lia
    rw [e, txt_at]; rfl
  have er : ((n + 5 : Nat) : Int) - 1 = (n : Int) + 4 := by lia
  rw [er] at F4
  refine' wpAny_mono (Q := fun f s' => Stop (f = .next ∧ ∃ tr h' tk, s' = { s with heap := h', toks := tk } ∧ Fr s.heap s.heap.objs.size h' (fun y => if y = Str.ofString "rpos" then some (.int ((n : Int) + 4) tr) else if y = Str.ofString "lpos" then some (.int lp t1) else if y = Str.ofString "amount" then some (.int am t2) else if y = Str.ofString "s" then some (.str (txt n) tx) else none)))
    (ksw_while (fun _ => []) (fun c : Nat => [("rpos", .int ((n : Int) + 4) c)]) (fun _ => True) [] (fun _ => True) (fun _ => 0) ?y1 F4 N4 trivial ?hk trivial ?turn PassesOwn.never) ?_ (fun _ _ x => x)
  case hk => kst_all
  case turn =>
    intro tr kU kH kTk _ _ kF kN
    simp only [kstB] at kF
    dsimp only at kF ⊢
    k_steps
    all_goals (
      unfold Stop
      refine ⟨rfl, tr, kH, _, rfl, Fr.congr kF fun y => ?_⟩
      simp only [List.contains_nil, Bool.false_eq_true, if_false]
      ((repeat' split) <;> simp_all))
  rintro f s' ⟨rfl, tr, h5, tk5, rfl, F5⟩
  have N5 : News s.heap s.heap.objs.size h5 [] := News.nil
  k_steps
  unfold Stop
  refine slice_strN_ss F5 N5 (fun h6 t6 k6 F6 N6 => ?_) (hsz := by rw [txt_len, sizeLine_eq]; lia)
  have e : Txt.slice (txt n) (some lp) (some ((n : Int) + 4 + 1)) = txt (n - k) := by
    obtain ⟨i, rfl⟩ := Int.eq_ofNat_of_zero_le b1
    have hin : i ≤ n := by lia
    have hik : n - k = n - i := by lia
    rw [txt_slice hin (by lia), hik]
  rw [e]
  exact h _ _ _ F6.keep
theorem all : Stmt c.1 c.2.1 c.2.2.1 c.2.2.2.1 c.2.2.2.2.1 c.2.2.2.2.2.1 c.2.2.2.2.2.2.1 c.2.2.2.2.2.2.2.1 c.2.2.2.2.2.2.2.2.1 c.2.2.2.2.2.2.2.2.2.1 c.2.2.2.2.2.2.2.2.2.2.1 c.2.2.2.2.2.2.2.2.2.2.2.1 c.2.2.2.2.2.2.2.2.2.2.2.2.1 c.2.2.2.2.2.2.2.2.2.2.2.2.2.1 c.2.2.2.2.2.2.2.2.2.2.2.2.2.2 := by
  have h := spec_c
  unfold w A s p loose mean mg mb g Q E n k tx tk at h
  exact h
end Sp
theorem sp_spec {w : World} {A : Around} {s : Shared} {p : Program} {loose : List Str} {mean : ExcName → Option Value} {mg mb : Str → Option Value} {g : Heap}
    {Q E : Value → Shared → Prop} {n k : Nat} {tx tk : Tok}
    (X : (hd.heap_1 w.params).In g) (T : Top p loose mean mg mb g) (hk : ∀ b o, g.get? b = some o → s.heap.get? b = some o)
    (hh : A.handled = none) (hroom : A.depth + 5 < recursionLimit) (hn : n ≤ 1000)
    (h : ∀ t h' tk, (∀ b o, s.heap.get? b = some o → h'.get? b = some o) → Q (.str (txt (n - k)) t) { s with heap := h', toks := tk }) :
    wpAny (model PG w) A (call (.ref 35) [.str (txt n) tx, .int (k : Int) tk]) Q E s := by
  exact of_pick Sp.ne (fun v => Sp.Stmt v.1 v.2.1 v.2.2.1 v.2.2.2.1 v.2.2.2.2.1 v.2.2.2.2.2.1 v.2.2.2.2.2.2.1 v.2.2.2.2.2.2.2.1 v.2.2.2.2.2.2.2.2.1 v.2.2.2.2.2.2.2.2.2.1 v.2.2.2.2.2.2.2.2.2.2.1 v.2.2.2.2.2.2.2.2.2.2.2.1 v.2.2.2.2.2.2.2.2.2.2.2.2.1 v.2.2.2.2.2.2.2.2.2.2.2.2.2.1 v.2.2.2.2.2.2.2.2.2.2.2.2.2.2) Sp.all (w, A, s, p, loose, mean, mg, mb, g, Q, E, n, k, tx, tk) X T hk hh hroom hn h
end RS
end PartW6

section PartP2
open PySem
namespace RS
theorem ws_blanks : ∀ (m : Nat) (cs : List Int) (b nt : Nat), (List.replicate m 32).foldl wsStep (cs, b, nt) = (cs, b + m, nt)
  | 0, cs, b, nt => rfl
  | m + 1, cs, b, nt => by
    rw [List.replicate_succ, List.foldl_cons]
    show (List.replicate m 32).foldl wsStep (cs, b + 1, nt) = _
    rw [ws_blanks m, Nat.add_assoc, Nat.add_comm 1 m]
/-- the counts of m blanks and two tabs -/
def csOf (m : Nat) : List Int := ((List.replicate (m + 1) 0).set m 1).set 0 (((List.replicate (m + 1) (0 : Int)).set m 1).getD 0 0 + 1)
theorem ws_txt (m : Nat) : (List.replicate m 32 ++ [9, 9, 32, 32]).foldl wsStep ([], 0, 0) = (csOf m, 2, 2) := by
  rw [List.foldl_append, ws_blanks]
  simp only [List.foldl_cons, List.foldl_nil, Nat.zero_add]
  rw [wsStep_tab9 [] m 0]
  have e1 : (if ([] : List Int).length ≤ m then ([] : List Int) ++ List.replicate (m - ([] : List Int).length + 1) 0 else []) = List.replicate (m + 1) 0 := by simp
  rw [e1]
  have e2 : (List.replicate (m + 1) (0 : Int)).getD m 0 + 1 = 1 := by simp [List.getD_eq_getElem?_getD]
  rw [e2, wsStep_tab9 ((List.replicate (m + 1) (0 : Int)).set m 1) 0 (0 + 1)]
  have e3 : (if ((List.replicate (m + 1) (0 : Int)).set m 1).length ≤ 0 then (List.replicate (m + 1) (0 : Int)).set m 1 ++ List.replicate (0 - ((List.replicate (m + 1) (0 : Int)).set m 1).length + 1) 0 else (List.replicate (m + 1) (0 : Int)).set m 1) = (List.replicate (m + 1) (0 : Int)).set m 1 := by
    rw [if_neg (by simp)]
  rw [e3]
  rfl
theorem csOf_length (m : Nat) : (csOf m).length = m + 1 := by simp [csOf]
theorem csOf_get (m k : Nat) (hk : 1 ≤ k) (hm : k ≤ m) : (csOf m).getD k 0 = if k = m then 1 else 0 := by
  unfold csOf
  rw [List.getD_eq_getElem?_getD, List.getElem?_set_ne (by lia)]
  by_cases h : k = m
  · subst h
    rw [if_pos rfl, List.getElem?_set_self (by simp)]
    rfl
  · rw [if_neg h, List.getElem?_set_ne (by lia)]
    rw [List.getElem?_replicate]
    split <;> rfl
theorem csOf_bnd (m : Nat) : ∀ x ∈ csOf m, 0 ≤ x ∧ x ≤ 1000 := by
  intro x hx
  have h0 : ∀ y ∈ (List.replicate (m + 1) (0 : Int)).set m 1, 0 ≤ y ∧ y ≤ 1 := by
    intro y hy
    rcases List.mem_or_eq_of_mem_set hy with h | h
    · rw [List.eq_of_mem_replicate h]; lia
    · lia
  have hg : 0 ≤ ((List.replicate (m + 1) (0 : Int)).set m 1).getD 0 0 ∧ ((List.replicate (m + 1) (0 : Int)).set m 1).getD 0 0 ≤ 1 := by
    rw [List.getD_eq_getElem?_getD]
    cases e : ((List.replicate (m + 1) (0 : Int)).set m 1)[0]? with
    | none => exact ⟨Int.le_refl _, by decide⟩
    | some y => exact h0 y (List.mem_of_getElem? e)
  unfold csOf at hx
  rcases List.mem_or_eq_of_mem_set hx with h | h
  · have := h0 x h; lia
  · lia
theorem sum_zero : ∀ (l : List Nat) (f : Nat → Int), (∀ i ∈ l, f i = 0) → (l.map f).sum = 0
  | [], _, _ => rfl
  | a :: l, f, h => by
    rw [List.map_cons, List.sum_cons, h a (.head _), sum_zero l f fun i hi => h i (.tail _ hi)]
    rfl
theorem ilSum_csOf (m k : Nat) (hk : 1 ≤ k) : ilSum (k : Int) (csOf m) ((csOf m).length - (k : Int).toNat) = ((m / k : Nat) : Int) := by
  rw [csOf_length, Int.toNat_natCast]
  unfold ilSum
  rw [Int.toNat_natCast]
  by_cases h : m < k
  · have e1 : m + 1 - k = 0 := by lia
    rw [e1, Nat.div_eq_of_lt h]
    rfl
  · have e1 : m + 1 - k = (m - k) + 1 := by lia
    rw [e1, List.range_succ, List.map_append, List.sum_append, sum_zero]
    · have e2 : k + (m - k) = m := by lia
      simp only [List.map_cons, List.map_nil, List.sum_cons, List.sum_nil, e2]
      rw [csOf_get m m (by lia) (Nat.le_refl _), if_pos rfl]
      have e3 : (k : Int) + ((m - k : Nat) : Int) = (m : Int) := by lia
      rw [e3, Int.natCast_ediv]
      lia
    · intro i hi
      have hi' : i < m - k := List.mem_range.mp hi
      rw [csOf_get m (k + i) (by lia) (by lia), if_neg (by lia), Int.mul_zero]
/-- where the prefix of blanks and tabs ends -/
theorem pre_end {l : List Nat} {i : Nat} {pre post : List Nat} (h1 : ∀ d ∈ l.take i, d = 32 ∨ d = 9) (h2 : ∀ ch, l[i]? = some ch → ch ≠ 32 ∧ ch ≠ 9)
    (hl : l = pre ++ 120 :: post) (hp : ∀ d ∈ pre, d = 32 ∨ d = 9) : l.take i = pre := by
  have h3 : i = pre.length := by
    rcases Nat.lt_trichotomy i pre.length with h | h | h
    · have e : l[i]? = some pre[i] := by rw [hl, List.getElem?_append_left h]; simp [h]
      have := h2 _ e
      have := hp pre[i] (List.getElem_mem h)
      lia
    · exact h
    · have : (120 : Nat) ∈ l.take i := by
        rw [hl]
        apply List.mem_of_getElem? (i := pre.length)
        rw [List.getElem?_take, if_pos h, List.getElem?_append_right (Nat.le_refl _)]
        simp
      have := h1 _ this
      lia
  rw [h3, hl]
  simp
theorem txt_pre (m : Nat) : (txt m).cps.toList = (List.replicate m 32 ++ [9, 9, 32, 32]) ++ 120 :: [] := by simp [txt]
theorem tail_pre : (Txt.slice (txt 0) (some 1) none).cps.toList = [9, 32, 32] ++ 120 :: [] := by
  have := slice_tail (x := txt 0) (i := 1) (u := none) (by rw [txt_len]; lia) (fun j e => nomatch e)
  rw [show ((1 : Nat) : Int) = (1 : Int) from rfl] at this
  rw [this]
  rfl
end RS
end PartP2

theorem RS.forgetW9 {prog : PySem.Program} {w : PySem.World} {A : PySem.Around} {env : PySem.Env} {Q : PySem.Flow → PySem.Shared → Prop} {E : PySem.Value → PySem.Shared → Prop} {s : PySem.Shared}
    (h : PySem.wpAny (PySem.model prog w) A (PySem.execs [] env) Q E s) : PySem.wpAny (PySem.model prog w) A (PySem.execs [] env) Q E s := by
  first | (walk1; fail "no") | skip
  w_top off
  exact h

section PartW9
open PySem PySem.W PyProof.Rows PySem.Calls
set_option Elab.async false
set_option maxRecDepth 100000
namespace RS
theorem fillT9 : (fun (_ : Params → Frag) (_ : OpenLaw) => True) hd.heap_1 PySem.Challenge.rw_rs0192_01 := by
  k_fill
  trivial
theorem reps_blank : ∀ (k : Nat) (acc : List Nat), (List.replicate k (#[32] : Array Nat)).foldl (· ++ ·) acc.toArray = (acc ++ List.replicate k 32).toArray
  | 0, acc => by simp
  | k + 1, acc => by
    rw [List.replicate_succ, List.foldl_cons]
    have : acc.toArray ++ #[32] = (acc ++ [32]).toArray := by simp
    rw [this, reps_blank k, List.append_assoc, List.replicate_succ]
    rfl
theorem mul_blank (n : Nat) : Txt.mul (Str.ofString " ") (n : Int) ++ Str.ofString "\t\t  x" = txt n := by
  have e1 : Str.ofString " " = ⟨#[32]⟩ := by decide +kernel
  have e2 : Str.ofString "\t\t  x" = ⟨#[9, 9, 32, 32, 120]⟩ := by decide +kernel
  rw [e1, e2]
  have e3 : Txt.mul ⟨#[32]⟩ (n : Int) = ⟨(List.replicate n 32).toArray⟩ := by
    unfold Txt.mul
    by_cases h : (n : Int) < 1
    · have : n = 0 := by lia
      subst this
      rfl
    · rw [if_neg h]
      by_cases h1 : n = 1
      · subst h1; rfl
      · have : (((n : Int) == 1) || ((⟨#[32]⟩ : Str).length == 0)) = false := by
          simp only [Bool.or_eq_false_iff, beq_eq_false_iff_ne]
          exact ⟨by lia, by decide⟩
        rw [this]
        simp only [Bool.false_eq_true, if_false, Int.toNat_natCast]
        have := reps_blank n []
        simp only [List.nil_append] at this
        rw [this]
  rw [e3]
  unfold txt
  show (⟨_ ++ _⟩ : Str) = _
  congr 1
  simp
local macro_rules | `(tactic| walk_at $k:str) => if ["binaryOp Mult str int", "call ref"].contains k.getString then `(tactic| (refine Stop.of ?_)) else Lean.Macro.throwUnsupported
theorem notin_of_fr {h₀ h : Heap} {L : Addr} {m : Str → Option Value} {a : Addr} (F : Fr h₀ L h m) (e : h.get? a = none) : h₀.get? a = none ∧ a ≠ L := by
  refine ⟨?_, fun q => ?_⟩
  · cases e2 : h₀.get? a with
    | none => rfl
    | some o => rw [F.keep a o e2] at e; cases e
  · subst q
    obtain ⟨o, _, _, ho, _⟩ := F.ns
    rw [ho] at e
    cases e
inductive WsOpen (P : Params) (h₀ h' : Heap) (L o : Addr) (cs : List Int) (b nt : Nat) : Prop
  | mk (dx : Addr) (k1 k2 k3 k4 k5 : Tok) (v1 v2 v5 : Value) (t3 : Tok) (N C : Addr) (vs : List Value) (t : Tok) (hI : IntsAre vs cs) (X : News h₀ L h' [(o, instObj 133 dx), (dx, dictOf [⟨PyData.keyHash P "raw", .str "raw" k1, v1⟩, ⟨PyData.keyHash P "n", .str "n" k2, v2⟩, ⟨PyData.keyHash P "nt", .str "nt" k3, .int (nt : Int) t3⟩, ⟨PyData.keyHash P "norm", .str "norm" k4, .ref N⟩, ⟨PyData.keyHash P "is_simple", .str "is_simple" k5, v5⟩] 5),
      (N, { cls := .type "tuple", data := .seq #[.ref C, .int (b : Int) t] }), (C, { cls := .type "tuple", data := .seq vs.toArray })])
theorem ws_open {P : Params} {h₀ h h' : Heap} {L o : Addr} {m : Str → Option Value} {cs : List Int} {b nt : Nat} (F : Fr h₀ L h m) (W : IsWs P h h' o cs b nt) :
    WsOpen P h₀ h' L o cs b nt := by
  obtain ⟨dx, k1, k2, k3, k4, k5, v1, v2, v5, t3, N, C, vs, t, hgn, e1, e2, e3, e4, hI⟩ := W
  refine ⟨dx, k1, k2, k3, k4, k5, v1, v2, v5, t3, N, C, vs, t, hI, fun q hq => ?_⟩
  simp only [List.mem_cons, List.not_mem_nil, or_false] at hq
  rcases hq with rfl | rfl | rfl | rfl
  · exact ⟨e1, (notin_of_fr F (hgn _ (by simp))).2, (notin_of_fr F (hgn _ (by simp))).1⟩
  · exact ⟨e2, (notin_of_fr F (hgn _ (by simp))).2, (notin_of_fr F (hgn _ (by simp))).1⟩
  · exact ⟨e3, (notin_of_fr F (hgn _ (by simp))).2, (notin_of_fr F (hgn _ (by simp))).1⟩
  · exact ⟨e4, (notin_of_fr F (hgn _ (by simp))).2, (notin_of_fr F (hgn _ (by simp))).1⟩
theorem ws_close {P : Params} {h₀ h' : Heap} {L o : Addr} {cs : List Int} {b nt : Nat} {dx : Addr} {k1 k2 k3 k4 k5 : Tok} {v1 v2 v5 : Value} {t3 : Tok} {N C : Addr} {vs : List Value} {t : Tok} (hI : IntsAre vs cs)
    (X : News h₀ L h' [(o, instObj 133 dx), (dx, dictOf [⟨PyData.keyHash P "raw", .str "raw" k1, v1⟩, ⟨PyData.keyHash P "n", .str "n" k2, v2⟩, ⟨PyData.keyHash P "nt", .str "nt" k3, .int (nt : Int) t3⟩, ⟨PyData.keyHash P "norm", .str "norm" k4, .ref N⟩, ⟨PyData.keyHash P "is_simple", .str "is_simple" k5, v5⟩] 5),
      (N, { cls := .type "tuple", data := .seq #[.ref C, .int (b : Int) t] }), (C, { cls := .type "tuple", data := .seq vs.toArray })]) : IsWs P h₀ h' o cs b nt := by
  refine ⟨dx, k1, k2, k3, k4, k5, v1, v2, v5, t3, N, C, vs, t, fun a ha => ?_, X.get (.head _), X.get (.tail _ (.head _)), X.get (.tail _ (.tail _ (.head _))), X.get (.tail _ (.tail _ (.tail _ (.head _)))), hI⟩
  simp only [List.mem_cons, List.not_mem_nil, or_false] at ha
  rcases ha with rfl | rfl | rfl | rfl
  · exact (X _ (.head _)).2.2
  · exact (X _ (.tail _ (.head _))).2.2
  · exact (X _ (.tail _ (.tail _ (.head _)))).2.2
  · exact (X _ (.tail _ (.tail _ (.tail _ (.head _))))).2.2
namespace St
abbrev V : Type := (World) × (Nat) × (Option (List Env)) × (Option (List Code)) × (Nat) × (Shared) × (Program) × (List Str) × (ExcName → Option Value) × (Str → Option Value) × (Str → Option Value) × (Heap) × (Value → Shared → Prop) × (Value → Shared → Prop) × (Nat) × (Nat) × (Nat) × (Tok) × (Tok) × (Tok)
def Stmt (w : World) (dA : Nat) (fA : Option (List Env)) (gA : Option (List Code)) (uA : Nat) (s : Shared) (p : Program) (loose : List Str) (mean : ExcName → Option Value) (mg : Str → Option Value) (mb : Str → Option Value) (g : Heap) (Q : Value → Shared → Prop) (E : Value → Shared → Prop) (n : Nat) (f : Nat) (k : Nat) (tc : Tok) (tf : Tok) (tk : Tok) : Prop := ∀ (X : (hd.heap_1 w.params).In g) (T : Top p loose mean mg mb g) (hk : ∀ b o, g.get? b = some o → s.heap.get? b = some o) (hroom : dA + 20 < recursionLimit) (hn : n ≤ 900) (hf1 : 1 ≤ f) (hfk : f ≤ k) (hk2 : k ≤ 100) (h : ∀ t h' tk, (∀ b o, s.heap.get? b = some o → h'.get? b = some o) → Q (.int ((f : Int) + (2 + k * (if n < f then 1 else (n - f) / k + 2 : Nat))) t) { s with heap := h', toks := tk }),
    wpAny (model PG w) (Around.mk none dA fA gA uA) (call (.ref 161) [.int ((n + 1 : Nat) : Int) tc, .int (f : Int) tf, .int (k : Int) tk]) Q E s
theorem ne : Nonempty V := ⟨((Classical.choice neW), 0, none, none, 0, {}, default, [], (fun _ => none), (fun _ => none), (fun _ => none), {}, (fun _ _ => True), (fun _ _ => True), 0, 0, 0, 0, 0, 0)⟩
noncomputable def c : V := pick ne fun v => Stmt v.1 v.2.1 v.2.2.1 v.2.2.2.1 v.2.2.2.2.1 v.2.2.2.2.2.1 v.2.2.2.2.2.2.1 v.2.2.2.2.2.2.2.1 v.2.2.2.2.2.2.2.2.1 v.2.2.2.2.2.2.2.2.2.1 v.2.2.2.2.2.2.2.2.2.2.1 v.2.2.2.2.2.2.2.2.2.2.2.1 v.2.2.2.2.2.2.2.2.2.2.2.2.1 v.2.2.2.2.2.2.2.2.2.2.2.2.2.1 v.2.2.2.2.2.2.2.2.2.2.2.2.2.2.1 v.2.2.2.2.2.2.2.2.2.2.2.2.2.2.2.1 v.2.2.2.2.2.2.2.2.2.2.2.2.2.2.2.2.1 v.2.2.2.2.2.2.2.2.2.2.2.2.2.2.2.2.2.1 v.2.2.2.2.2.2.2.2.2.2.2.2.2.2.2.2.2.2.1 v.2.2.2.2.2.2.2.2.2.2.2.2.2.2.2.2.2.2.2
@[irreducible] noncomputable def w : World := c.1
@[irreducible] noncomputable def dA : Nat := c.2.1
@[irreducible] noncomputable def fA : Option (List Env) := c.2.2.1
@[irreducible] noncomputable def gA : Option (List Code) := c.2.2.2.1
@[irreducible] noncomputable def uA : Nat := c.2.2.2.2.1
@[irreducible] noncomputable def s : Shared := c.2.2.2.2.2.1
@[irreducible] noncomputable def p : Program := c.2.2.2.2.2.2.1
@[irreducible] noncomputable def loose : List Str := c.2.2.2.2.2.2.2.1
@[irreducible] noncomputable def mean : ExcName → Option Value := c.2.2.2.2.2.2.2.2.1
@[irreducible] noncomputable def mg : Str → Option Value := c.2.2.2.2.2.2.2.2.2.1
@[irreducible] noncomputable def mb : Str → Option Value := c.2.2.2.2.2.2.2.2.2.2.1
@[irreducible] noncomputable def g : Heap := c.2.2.2.2.2.2.2.2.2.2.2.1
@[irreducible] noncomputable def Q : Value → Shared → Prop := c.2.2.2.2.2.2.2.2.2.2.2.2.1
@[irreducible] noncomputable def E : Value → Shared → Prop := c.2.2.2.2.2.2.2.2.2.2.2.2.2.1
@[irreducible] noncomputable def n : Nat := c.2.2.2.2.2.2.2.2.2.2.2.2.2.2.1
@[irreducible] noncomputable def f : Nat := c.2.2.2.2.2.2.2.2.2.2.2.2.2.2.2.1
@[irreducible] noncomputable def k : Nat := c.2.2.2.2.2.2.2.2.2.2.2.2.2.2.2.2.1
@[irreducible] noncomputable def tc : Tok := c.2.2.2.2.2.2.2.2.2.2.2.2.2.2.2.2.2.1
@[irreducible] noncomputable def tf : Tok := c.2.2.2.2.2.2.2.2.2.2.2.2.2.2.2.2.2.2.1
@[irreducible] noncomputable def tk : Tok := c.2.2.2.2.2.2.2.2.2.2.2.2.2.2.2.2.2.2.2
set_option maxHeartbeats 4000000 in
theorem spec_c : Stmt w dA fA gA uA s p loose mean mg mb g Q E n f k tc tf tk := by
  intro X T hk hroom hn hf1 hfk hk2 h
  refine wpAny_call ?_
  refine' enterC (K := hd.heap_1 w.params) X T hk (binds := [("column", .int ((n + 1 : Nat) : Int) tc), ("first", .int (f : Int) tf), ("step", .int (k : Int) tk)]) ?ho ?hcd ?hroom ?hb ?hloc ?c1 ?c2 ?c3 ?c4 ?_
  case ho => k_is
  case hcd => k_is
  case hroom => dsimp only; lia
  case hb => exact bindsTo_peek (X.keeps hk) (fun S => by kernel_rfl)
  case hloc => exact locs rfl
  case c1 => exact rfl
  case c2 => exact rfl
  case c3 => exact rfl
  case c4 => decide
  intro h₁ hns hk₁
  have F : Fr s.heap s.heap.objs.size h₁ _ := ⟨hns, hk₁, Nat.le_refl _⟩
  have N : News s.heap s.heap.objs.size h₁ [] := News.nil
  have X' := X.keeps hk
  have T' := T.keeps hk
  clear hns hk₁ X T
  k_steps
  refine Stop.go ?_
  refine KXi.mul (n := 1) (by decide) (by decide) (by lia) (by lia) ?_
  intro tm km _ hlen
  have en : ((n + 1 : Nat) : Int) - 1 = (n : Int) := by lia
  rw [en] at hlen ⊢
  k_steps
  rename Fr _ _ _ _ => F1
  rename News _ _ _ _ => N1
  rw [mul_blank] at F1 ⊢
  refine Stop.go ?_
  refine sp_spec X' T' F1.keep rfl (by show dA + 1 + 5 < _; lia) (by lia) ?_
  intro t2 h2 tk2 k2
  have F2 := F1.keeps k2
  have N2 := News.keeps N1 k2
  clear F1 N1
  have hl1 := txt_len n
  have hl2 := txt_len (n - f)
  k_steps
  all_goals rename Fr _ _ _ _ => F3
  all_goals rename News _ _ _ _ => N3
  · refine Stop.go ?_
    rename ((txt n).length : Int) - _ < _ => hlt
    rw [hl1, hl2] at hlt
    have hnf : n < f := by lia
    have hnf0 : n - f = 0 := by lia
    rw [hnf0]
    refine ws_spec (X'.keeps F3.keep) (T'.keeps F3.keep) (fun _ _ e => e) rfl (by show dA + 1 + 8 < _; lia) (by rw [← Array.all_toList, tail_pre]; decide) (by rw [tail_pre]; decide) (by rw [← Array.length_toList, tail_pre]; decide) ?_
    intro i o h4 tk4 hd hend k4 hws
    have hpre := pre_end hd (fun ch e => hend ch (by simpa using e)) tail_pre (by decide)
    rw [hpre] at hws
    have F4 := F3.keeps k4
    obtain ⟨dx, a1, a2, a3, a4, a5, v1, v2, v5, t3, NN, C, vs, t, hI, N4⟩ := ws_open F3 hws
    clear hws hd hend F3 N3
    k_steps
    refine Stop.go ?_
    refine il_spec0 X' T' F4.keep rfl (by show dA + 1 + 5 < _; lia) (ws_close hI N4) (by lia) (by lia) (by decide) (by decide) ?_
    intro h5 t5 tk5 k5
    k_steps
    have hz : ilSum (k : Int) (List.foldl wsStep ([], 0, 0) [9, 32, 32]).1 ((List.foldl wsStep ([], 0, 0) [9, 32, 32]).1.length - (k : Int).toNat) = 0 := by
      have e : (List.foldl wsStep ([], 0, 0) [9, 32, 32]).1.length - (k : Int).toNat = 0 := by
        show 1 - (k : Int).toNat = 0
        lia
      rw [e]
      rfl
    rw [hz]
    have e2 : (f : Int) + (((List.foldl wsStep ([], 0, 0) [9, 32, 32]).2.1 : Nat) + (k : Int) * (0 + ((List.foldl wsStep ([], 0, 0) [9, 32, 32]).2.2 : Nat))) = (f : Int) + (2 + k * ((if n < f then 1 else (n - f) / k + 2 : Nat) : Int)) := by
      rw [if_pos hnf]
      rfl
    rw [e2]
    exact h _ _ _ (fun b o' e => k5 b o' (F4.keep b o' e))
  · refine Stop.go ?_
    rename ¬ ((txt n).length : Int) - _ < _ => hlt
    rw [hl1, hl2] at hlt
    have hnf : ¬ n < f := by lia
    refine ws_spec (X'.keeps F3.keep) (T'.keeps F3.keep) (fun _ _ e => e) rfl (by show dA + 1 + 8 < _; lia) ?_ ?_ (by show (txt (n - f)).length ≤ 1000; lia) ?_
    · rw [← Array.all_toList, txt_pre, List.all_eq_true]
      intro c hc
      rcases List.mem_append.mp hc with q | q
      · rcases List.mem_append.mp q with q | q
        · rw [List.eq_of_mem_replicate q]; decide
        · simp only [List.mem_cons, List.not_mem_nil, or_false] at q; rcases q with rfl | rfl | rfl | rfl <;> decide
      · rw [List.mem_singleton.mp q]; decide
    · rw [txt_pre]
      intro c hc
      rcases List.mem_append.mp hc with q | q
      · rcases List.mem_append.mp q with q | q
        · exact .inl (List.eq_of_mem_replicate q)
        · simp only [List.mem_cons, List.not_mem_nil, or_false] at q; lia
      · exact .inr (.inr (List.mem_singleton.mp q))
    intro i o h4 tk4 hd hend k4 hws
    have hpre := pre_end hd (fun ch e => hend ch (by simpa using e)) (txt_pre (n - f)) (by
      intro c hc
      rcases List.mem_append.mp hc with q | q
      · exact .inl (List.eq_of_mem_replicate q)
      · simp only [List.mem_cons, List.not_mem_nil, or_false] at q; lia)
    rw [hpre, ws_txt] at hws
    have F4 := F3.keeps k4
    obtain ⟨dx, a1, a2, a3, a4, a5, v1, v2, v5, t3, NN, C, vs, t, hI, N4⟩ := ws_open F3 hws
    clear hws hd hend F3 N3
    dsimp only at hI N4
    k_steps
    refine Stop.go ?_
    refine il_spec0 X' T' F4.keep rfl (by show dA + 1 + 5 < _; lia) (ws_close hI N4) (by lia) (by lia) (by rw [csOf_length]; lia) (csOf_bnd _) ?_
    intro h5 t5 tk5 k5
    k_steps
    rw [ilSum_csOf _ _ (by lia)]
    have e2 : (f : Int) + ((2 : Nat) + (k : Int) * (((n - f) / k : Nat) + (2 : Nat))) = (f : Int) + (2 + k * ((if n < f then 1 else (n - f) / k + 2 : Nat) : Int)) := by
      rw [if_neg hnf]
      rfl
    rw [e2]
    exact h _ _ _ (fun b o' e => k5 b o' (F4.keep b o' e))
theorem all : Stmt c.1 c.2.1 c.2.2.1 c.2.2.2.1 c.2.2.2.2.1 c.2.2.2.2.2.1 c.2.2.2.2.2.2.1 c.2.2.2.2.2.2.2.1 c.2.2.2.2.2.2.2.2.1 c.2.2.2.2.2.2.2.2.2.1 c.2.2.2.2.2.2.2.2.2.2.1 c.2.2.2.2.2.2.2.2.2.2.2.1 c.2.2.2.2.2.2.2.2.2.2.2.2.1 c.2.2.2.2.2.2.2.2.2.2.2.2.2.1 c.2.2.2.2.2.2.2.2.2.2.2.2.2.2.1 c.2.2.2.2.2.2.2.2.2.2.2.2.2.2.2.1 c.2.2.2.2.2.2.2.2.2.2.2.2.2.2.2.2.1 c.2.2.2.2.2.2.2.2.2.2.2.2.2.2.2.2.2.1 c.2.2.2.2.2.2.2.2.2.2.2.2.2.2.2.2.2.2.1 c.2.2.2.2.2.2.2.2.2.2.2.2.2.2.2.2.2.2.2 := by
  have h := spec_c
  unfold w dA fA gA uA s p loose mean mg mb g Q E n f k tc tf tk at h
  exact h
end St
theorem stop_spec {w : World} {A : Around} {s : Shared} {p : Program} {loose : List Str} {mean : ExcName → Option Value} {mg mb : Str → Option Value} {g : Heap}
    {Q E : Value → Shared → Prop} {n f k : Nat} {tc tf tk : Tok}
    (X : (hd.heap_1 w.params).In g) (T : Top p loose mean mg mb g) (hk : ∀ b o, g.get? b = some o → s.heap.get? b = some o)
    (hh : A.handled = none) (hroom : A.depth + 20 < recursionLimit) (hn : n ≤ 900) (hf1 : 1 ≤ f) (hfk : f ≤ k) (hk2 : k ≤ 100)
    (h : ∀ t h' tk, (∀ b o, s.heap.get? b = some o → h'.get? b = some o) → Q (.int ((f : Int) + (2 + k * (if n < f then 1 else (n - f) / k + 2 : Nat))) t) { s with heap := h', toks := tk }) :
    wpAny (model PG w) A (call (.ref 161) [.int ((n + 1 : Nat) : Int) tc, .int (f : Int) tf, .int (k : Int) tk]) Q E s := by
  obtain ⟨hA, dA, fA, gA, uA⟩ := A
  dsimp only at hh
  subst hh
  exact of_pick St.ne (fun v => St.Stmt v.1 v.2.1 v.2.2.1 v.2.2.2.1 v.2.2.2.2.1 v.2.2.2.2.2.1 v.2.2.2.2.2.2.1 v.2.2.2.2.2.2.2.1 v.2.2.2.2.2.2.2.2.1 v.2.2.2.2.2.2.2.2.2.1 v.2.2.2.2.2.2.2.2.2.2.1 v.2.2.2.2.2.2.2.2.2.2.2.1 v.2.2.2.2.2.2.2.2.2.2.2.2.1 v.2.2.2.2.2.2.2.2.2.2.2.2.2.1 v.2.2.2.2.2.2.2.2.2.2.2.2.2.2.1 v.2.2.2.2.2.2.2.2.2.2.2.2.2.2.2.1 v.2.2.2.2.2.2.2.2.2.2.2.2.2.2.2.2.1 v.2.2.2.2.2.2.2.2.2.2.2.2.2.2.2.2.2.1 v.2.2.2.2.2.2.2.2.2.2.2.2.2.2.2.2.2.2.1 v.2.2.2.2.2.2.2.2.2.2.2.2.2.2.2.2.2.2.2) St.all (w, dA, fA, gA, uA, s, p, loose, mean, mg, mb, g, Q, E, n, f, k, tc, tf, tk) X T hk hroom hn hf1 hfk hk2 h
end RS
end PartW9

theorem RS.forgetK2 {prog : PySem.Program} {w : PySem.World} {A : PySem.Around} {env : PySem.Env} {Q : PySem.Flow → PySem.Shared → Prop} {E : PySem.Value → PySem.Shared → Prop} {s : PySem.Shared}
    (h : PySem.wpAny (PySem.model prog w) A (PySem.execs [] env) Q E s) : PySem.wpAny (PySem.model prog w) A (PySem.execs [] env) Q E s := by
  first | (walk1; fail "no") | skip
  w_top off
  exact h

section PartK2
open PySem PySem.W PyProof.Rows PySem.Calls
set_option Elab.async false
set_option maxRecDepth 100000
namespace RS
theorem fillK2 : (fun (_ : Params → Frag) (_ : OpenLaw) => True) hd.heap_1 PySem.Challenge.rw_rs0192_01 := by
  k_fill
  trivial
local macro_rules | `(tactic| walk_at $k:str) => if ["exec While Compare cons nil", "KswEnd", "call ref", "subscriptTail"].contains k.getString then `(tactic| (refine Stop.of ?_)) else Lean.Macro.throwUnsupported
namespace Br
abbrev V : Type := (World) × (Nat) × (Option (List Env)) × (Option (List Code)) × (Nat) × (Shared) × (Program) × (List Str) × (ExcName → Option Value) × (Str → Option Value) × (Str → Option Value) × (Heap) × (Result → Shared → Prop) × (Addr) × (Addr) × (Nat) × (Int) × (Tok) × (Tok) × (Tok) × (Tok) × (Nat → Int) × (Obj) × (FuncData)
def Stmt (w : World) (dA : Nat) (fA : Option (List Env)) (gA : Option (List Code)) (uA : Nat) (s : Shared) (p : Program) (loose : List Str) (mean : ExcName → Option Value) (mg : Str → Option Value) (mb : Str → Option Value) (g : Heap) (R : Result → Shared → Prop) (r : Addr) (lam : Addr) (n : Nat) (x : Int) (tx : Tok) (t0 : Tok) (u0 : Tok) (v0 : Tok) (φ : Nat → Int) (oL : Obj) (fdL : FuncData) : Prop := ∀ (X : (hd.heap_1 w.params).In g) (T : Top p loose mean mg mb g) (hk : ∀ b o, g.get? b = some o → s.heap.get? b = some o) (hroom : dA + 10 < recursionLimit) (hlam : ∀ (A' : Around) (s' : Shared) (v : Nat) t Q' E', A'.handled = none → A'.depth + 5 < recursionLimit → (∀ b o, s.heap.get? b = some o → s'.heap.get? b = some o) → v < n →
      (∀ t' h' tk, (∀ b o, s'.heap.get? b = some o → h'.get? b = some o) → Q' (.int (φ v) t') { s' with heap := h', toks := tk }) → wpAny (model PG w) A' (call (.ref lam) [.int (v : Int) t]) Q' E' s') (hlo : s.heap.get? lam = some oL ∧ oL.data = .func fdL) (hst : Steps (fun y => decide (y ≤ x)) ((List.range n).map φ)) (hr : IsRange s.heap r 0 (n : Int) 1 t0 u0 v0) (hn : n ≤ 1000) (h : ∀ t h' tk, (∀ b o, s.heap.get? b = some o → h'.get? b = some o) → R (.ok (.ret (.int (((List.range n).map φ).countP (fun y => decide (y ≤ x)) : Int) t))) { s with heap := h', toks := tk }),
    codeAny (model PG w) (Around.mk none dA fA gA uA) (.call (.ref 53) ⟨[.ref r, .int x tx], [("key", .ref lam)]⟩) R s
theorem ne : Nonempty V := ⟨((Classical.choice neW), 0, none, none, 0, {}, default, [], (fun _ => none), (fun _ => none), (fun _ => none), {}, (fun _ _ => True), 0, 0, 0, 0, 0, 0, 0, 0, default, { cls := .none, data := .fields #[] }, default)⟩
noncomputable def c : V := pick ne fun v => Stmt v.1 v.2.1 v.2.2.1 v.2.2.2.1 v.2.2.2.2.1 v.2.2.2.2.2.1 v.2.2.2.2.2.2.1 v.2.2.2.2.2.2.2.1 v.2.2.2.2.2.2.2.2.1 v.2.2.2.2.2.2.2.2.2.1 v.2.2.2.2.2.2.2.2.2.2.1 v.2.2.2.2.2.2.2.2.2.2.2.1 v.2.2.2.2.2.2.2.2.2.2.2.2.1 v.2.2.2.2.2.2.2.2.2.2.2.2.2.1 v.2.2.2.2.2.2.2.2.2.2.2.2.2.2.1 v.2.2.2.2.2.2.2.2.2.2.2.2.2.2.2.1 v.2.2.2.2.2.2.2.2.2.2.2.2.2.2.2.2.1 v.2.2.2.2.2.2.2.2.2.2.2.2.2.2.2.2.2.1 v.2.2.2.2.2.2.2.2.2.2.2.2.2.2.2.2.2.2.1 v.2.2.2.2.2.2.2.2.2.2.2.2.2.2.2.2.2.2.2.1 v.2.2.2.2.2.2.2.2.2.2.2.2.2.2.2.2.2.2.2.2.1 v.2.2.2.2.2.2.2.2.2.2.2.2.2.2.2.2.2.2.2.2.2.1 v.2.2.2.2.2.2.2.2.2.2.2.2.2.2.2.2.2.2.2.2.2.2.1 v.2.2.2.2.2.2.2.2.2.2.2.2.2.2.2.2.2.2.2.2.2.2.2
@[irreducible] noncomputable def w : World := c.1
@[irreducible] noncomputable def dA : Nat := c.2.1
@[irreducible] noncomputable def fA : Option (List Env) := c.2.2.1
@[irreducible] noncomputable def gA : Option (List Code) := c.2.2.2.1
@[irreducible] noncomputable def uA : Nat := c.2.2.2.2.1
@[irreducible] noncomputable def s : Shared := c.2.2.2.2.2.1
@[irreducible] noncomputable def p : Program := c.2.2.2.2.2.2.1
@[irreducible] noncomputable def loose : List Str := c.2.2.2.2.2.2.2.1
@[irreducible] noncomputable def mean : ExcName → Option Value := c.2.2.2.2.2.2.2.2.1
@[irreducible] noncomputable def mg : Str → Option Value := c.2.2.2.2.2.2.2.2.2.1
@[irreducible] noncomputable def mb : Str → Option Value := c.2.2.2.2.2.2.2.2.2.2.1
@[irreducible] noncomputable def g : Heap := c.2.2.2.2.2.2.2.2.2.2.2.1
@[irreducible] noncomputable def R : Result → Shared → Prop := c.2.2.2.2.2.2.2.2.2.2.2.2.1
@[irreducible] noncomputable def r : Addr := c.2.2.2.2.2.2.2.2.2.2.2.2.2.1
@[irreducible] noncomputable def lam : Addr := c.2.2.2.2.2.2.2.2.2.2.2.2.2.2.1
@[irreducible] noncomputable def n : Nat := c.2.2.2.2.2.2.2.2.2.2.2.2.2.2.2.1
@[irreducible] noncomputable def x : Int := c.2.2.2.2.2.2.2.2.2.2.2.2.2.2.2.2.1
@[irreducible] noncomputable def tx : Tok := c.2.2.2.2.2.2.2.2.2.2.2.2.2.2.2.2.2.1
@[irreducible] noncomputable def t0 : Tok := c.2.2.2.2.2.2.2.2.2.2.2.2.2.2.2.2.2.2.1
@[irreducible] noncomputable def u0 : Tok := c.2.2.2.2.2.2.2.2.2.2.2.2.2.2.2.2.2.2.2.1
@[irreducible] noncomputable def v0 : Tok := c.2.2.2.2.2.2.2.2.2.2.2.2.2.2.2.2.2.2.2.2.1
@[irreducible] noncomputable def φ : Nat → Int := c.2.2.2.2.2.2.2.2.2.2.2.2.2.2.2.2.2.2.2.2.2.1
@[irreducible] noncomputable def oL : Obj := c.2.2.2.2.2.2.2.2.2.2.2.2.2.2.2.2.2.2.2.2.2.2.1
@[irreducible] noncomputable def fdL : FuncData := c.2.2.2.2.2.2.2.2.2.2.2.2.2.2.2.2.2.2.2.2.2.2.2
set_option maxHeartbeats 4000000 in
theorem spec_c : Stmt w dA fA gA uA s p loose mean mg mb g R r lam n x tx t0 u0 v0 φ oL fdL := by
  intro X T hk hroom hlam hlo hst hr hn h
  refine' enterC (K := hd.heap_1 w.params) X T hk (binds := [("a", .ref r), ("x", .int x tx), ("lo", .int 0 232), ("hi", .none), ("key", .ref lam)]) ?ho ?hcd ?hroom ?hb ?hloc ?c1 ?c2 ?c3 ?c4 ?_
  case ho => k_is
  case hcd => k_is
  case hroom => dsimp only; lia
  case hb => exact bindsTo_peek (X.keeps hk) (fun S => by kernel_rfl)
  case hloc => exact locs rfl
  case c1 => exact rfl
  case c2 => exact rfl
  case c3 => exact rfl
  case c4 => decide
  intro h₁ hns hk₁
  have F : Fr s.heap s.heap.objs.size h₁ _ := ⟨hns, hk₁, Nat.le_refl _⟩
  have N : News s.heap s.heap.objs.size h₁ [] := News.nil
  have X' := X.keeps hk
  have T' := T.keeps hk
  clear hns hk₁ X T
  k_steps
  rename Fr _ _ _ _ => F1
  have hsz : Builtin.Range.rangeSize 0 (n : Int) 1 = (n : Int) := by rw [rangeSize_one]; split <;> lia
  refine call_len_range (F1.keep r _ hr) (by rw [hsz]; lia) (by rw [hsz]; lia) fun t1 tk1 => ?_
  rw [hsz]
  k_steps
  unfold Stop
  rename_i F' N'
  have hlen : ((List.range n).map φ).length = n := by simp
  refine' ksw_while (fun _ => []) (fun c : Int × Int × Nat × Nat => [("lo", .int c.1 c.2.2.1), ("hi", .int c.2.1 c.2.2.2)]) (fun _ => True) ["mid"] (fun c => BInv (fun y => decide (y ≤ x)) ((List.range n).map φ) c.1 c.2.1) (fun c => (c.2.1 - c.1).toNat) (0, ?z1, ?z2, ?z3) F' N' trivial ?hk (BInv.start _ _ hlen.symm) ?turn PassesOwn.never
  case hk => kst_all
  case turn =>
    rintro ⟨lo, hi', t1, t2⟩ kU kH kTk _ hI kF kN
    simp only [kstB] at kF
    dsimp only at hI kF ⊢
    have hI' := hI
    obtain ⟨b1, b2, b3, _, _⟩ := hI'
    rw [hlen] at b3
    k_steps
    · rename Fr _ _ _ _ => F2
      rename News _ _ _ _ => N2
      refine callWith_def (o := oL) (fd := fdL) hlo.2 ?_
      k_steps
      have hmid := mid_in (show lo < hi' by assumption)
      refine Stop.of ?_
      rename Fr _ _ _ _ => F3
      refine item_range (F3.keep r _ hr) (by lia) (by rw [hsz]; lia) fun t4 tk4 => ?_
      have c1 : lo < hi' := by assumption
      have hgd : ((List.range n).map φ).getD ((lo + hi').fdiv 2).toNat 0 = φ ((lo + hi').fdiv 2).toNat := by
        rw [List.getD_eq_getElem?_getD, List.getElem?_map, List.getElem?_range (by lia)]
        rfl
      k_steps
      · exact F3.keep _ _ hlo.1
      refine Stop.of ?_
      have e1 : 0 + (lo + hi').fdiv 2 * 1 = ((((lo + hi').fdiv 2).toNat : Nat) : Int) := by lia
      rw [e1]
      refine hlam _ _ _ _ _ _ rfl (by show dA + 1 + 5 < _; lia) F3.keep (by lia) fun t5 h5 tk5 k5 => ?_
      have F5 := F3.keeps k5
      have N5 : News s.heap s.heap.objs.size h5 [] := News.nil
      clear F3 N2
      k_steps
      · have c2 : x < φ ((lo + hi').fdiv 2).toNat := by assumption
        rename Fr _ _ _ _ => F9
        rename News _ _ _ _ => N9
        unfold Stop
        exact ksw_end (_, _, _, _) F9 N9 (fun _ h => nomatch h) trivial (by kst_all) (by ksw_same) (hI.down c1 hst (by rw [hgd]; exact decide_eq_false (Int.not_le.mpr c2))) (by exact meas_down c1)
      · have c2 : ¬ x < φ ((lo + hi').fdiv 2).toNat := by assumption
        rename Fr _ _ _ _ => F9
        rename News _ _ _ _ => N9
        unfold Stop
        exact ksw_end (_, _, _, _) F9 N9 (fun _ h => nomatch h) trivial (by kst_all) (by ksw_same) (hI.up c1 hst (by rw [hgd]; exact decide_eq_true (Int.not_lt.mp c2))) (by exact meas_up c1)
    · have c1 : ¬ lo < hi' := by assumption
      dsimp only
      rw [hI.done c1]
      exact h _ _ _ kF.keep
theorem all : Stmt c.1 c.2.1 c.2.2.1 c.2.2.2.1 c.2.2.2.2.1 c.2.2.2.2.2.1 c.2.2.2.2.2.2.1 c.2.2.2.2.2.2.2.1 c.2.2.2.2.2.2.2.2.1 c.2.2.2.2.2.2.2.2.2.1 c.2.2.2.2.2.2.2.2.2.2.1 c.2.2.2.2.2.2.2.2.2.2.2.1 c.2.2.2.2.2.2.2.2.2.2.2.2.1 c.2.2.2.2.2.2.2.2.2.2.2.2.2.1 c.2.2.2.2.2.2.2.2.2.2.2.2.2.2.1 c.2.2.2.2.2.2.2.2.2.2.2.2.2.2.2.1 c.2.2.2.2.2.2.2.2.2.2.2.2.2.2.2.2.1 c.2.2.2.2.2.2.2.2.2.2.2.2.2.2.2.2.2.1 c.2.2.2.2.2.2.2.2.2.2.2.2.2.2.2.2.2.2.1 c.2.2.2.2.2.2.2.2.2.2.2.2.2.2.2.2.2.2.2.1 c.2.2.2.2.2.2.2.2.2.2.2.2.2.2.2.2.2.2.2.2.1 c.2.2.2.2.2.2.2.2.2.2.2.2.2.2.2.2.2.2.2.2.2.1 c.2.2.2.2.2.2.2.2.2.2.2.2.2.2.2.2.2.2.2.2.2.2.1 c.2.2.2.2.2.2.2.2.2.2.2.2.2.2.2.2.2.2.2.2.2.2.2 := by
  have h := spec_c
  unfold w dA fA gA uA s p loose mean mg mb g R r lam n x tx t0 u0 v0 φ oL fdL at h
  exact h
end Br
theorem br_key {w : World} {A : Around} {s : Shared} {p : Program} {loose : List Str} {mean : ExcName → Option Value} {mg mb : Str → Option Value} {g : Heap}
    {R : Result → Shared → Prop} {r lam : Addr} {n : Nat} {x : Int} {tx t0 u0 v0 : Tok} {φ : Nat → Int} {oL : Obj} {fdL : FuncData}
    (X : (hd.heap_1 w.params).In g) (T : Top p loose mean mg mb g) (hk : ∀ b o, g.get? b = some o → s.heap.get? b = some o)
    (hh : A.handled = none) (hroom : A.depth + 10 < recursionLimit) (hlam : ∀ (A' : Around) (s' : Shared) (v : Nat) t Q' E', A'.handled = none → A'.depth + 5 < recursionLimit → (∀ b o, s.heap.get? b = some o → s'.heap.get? b = some o) → v < n →
      (∀ t' h' tk, (∀ b o, s'.heap.get? b = some o → h'.get? b = some o) → Q' (.int (φ v) t') { s' with heap := h', toks := tk }) → wpAny (model PG w) A' (call (.ref lam) [.int (v : Int) t]) Q' E' s')
    (hlo : s.heap.get? lam = some oL ∧ oL.data = .func fdL) (hst : Steps (fun y => decide (y ≤ x)) ((List.range n).map φ)) (hr : IsRange s.heap r 0 (n : Int) 1 t0 u0 v0) (hn : n ≤ 1000)
    (h : ∀ t h' tk, (∀ b o, s.heap.get? b = some o → h'.get? b = some o) → R (.ok (.ret (.int (((List.range n).map φ).countP (fun y => decide (y ≤ x)) : Int) t))) { s with heap := h', toks := tk }) :
    codeAny (model PG w) A (.call (.ref 53) ⟨[.ref r, .int x tx], [("key", .ref lam)]⟩) R s := by
  obtain ⟨hA, dA, fA, gA, uA⟩ := A
  dsimp only at hh
  subst hh
  exact of_pick Br.ne (fun v => Br.Stmt v.1 v.2.1 v.2.2.1 v.2.2.2.1 v.2.2.2.2.1 v.2.2.2.2.2.1 v.2.2.2.2.2.2.1 v.2.2.2.2.2.2.2.1 v.2.2.2.2.2.2.2.2.1 v.2.2.2.2.2.2.2.2.2.1 v.2.2.2.2.2.2.2.2.2.2.1 v.2.2.2.2.2.2.2.2.2.2.2.1 v.2.2.2.2.2.2.2.2.2.2.2.2.1 v.2.2.2.2.2.2.2.2.2.2.2.2.2.1 v.2.2.2.2.2.2.2.2.2.2.2.2.2.2.1 v.2.2.2.2.2.2.2.2.2.2.2.2.2.2.2.1 v.2.2.2.2.2.2.2.2.2.2.2.2.2.2.2.2.1 v.2.2.2.2.2.2.2.2.2.2.2.2.2.2.2.2.2.1 v.2.2.2.2.2.2.2.2.2.2.2.2.2.2.2.2.2.2.1 v.2.2.2.2.2.2.2.2.2.2.2.2.2.2.2.2.2.2.2.1 v.2.2.2.2.2.2.2.2.2.2.2.2.2.2.2.2.2.2.2.2.1 v.2.2.2.2.2.2.2.2.2.2.2.2.2.2.2.2.2.2.2.2.2.1 v.2.2.2.2.2.2.2.2.2.2.2.2.2.2.2.2.2.2.2.2.2.2.1 v.2.2.2.2.2.2.2.2.2.2.2.2.2.2.2.2.2.2.2.2.2.2.2) Br.all (w, dA, fA, gA, uA, s, p, loose, mean, mg, mb, g, R, r, lam, n, x, tx, t0, u0, v0, φ, oL, fdL) X T hk hroom hlam hlo hst hr hn h
end RS
end PartK2

section PartV1
namespace RS
/-- one step of a recurrence: f(x+1) - w f(x) -/
def sh (w : Int) (f : Nat → Int) : Nat → Int := fun x => f (x + 1) - w * f x
def shs : List Int → (Nat → Int) → Nat → Int
  | [], f => f
  | w :: ws, f => shs ws (sh w f)
theorem shs_zero {N : Int} : ∀ (ws : List Int) (f : Nat → Int) (c : Nat), (∀ x, N ∣ shs ws f x) → (∀ i, i < ws.length → N ∣ f (c + i)) → ∀ j, N ∣ f (c + j)
  | [], f, c, h, _, j => h (c + j)
  | w :: ws, f, c, h, hz, j => by
    have hs := shs_zero ws (sh w f) c h (fun i hi => by
      have h1 := hz (i + 1) (by simpa using hi)
      have h2 := hz i (by simp only [List.length_cons]; lia)
      exact Int.dvd_sub h1 (Int.dvd_mul_of_dvd_right h2))
    induction j with
    | zero => exact hz 0 (by simp)
    | succ j ih =>
      have h1 := hs j
      have e : f (c + (j + 1)) = sh w f (c + j) + w * f (c + j) := by
        show f (c + j + 1) = (f (c + j + 1) - w * f (c + j)) + w * f (c + j)
        lia
      rw [e]
      exact Int.dvd_add h1 (Int.dvd_mul_of_dvd_right ih)
theorem sh_add (w : Int) (f g : Nat → Int) : sh w (fun x => f x + g x) = fun x => sh w f x + sh w g x := by
  funext x
  simp only [sh, Int.mul_add]
  lia
theorem sh_comm (w v : Int) (f : Nat → Int) : sh w (sh v f) = sh v (sh w f) := by
  funext x
  simp only [sh, Int.mul_sub]
  have e : w * (v * f x) = v * (w * f x) := by rw [← Int.mul_assoc, Int.mul_comm w v, Int.mul_assoc]
  lia
theorem shs_add : ∀ (ws : List Int) (f g : Nat → Int), shs ws (fun x => f x + g x) = fun x => shs ws f x + shs ws g x
  | [], _, _ => rfl
  | w :: ws, f, g => by
    show shs ws (sh w _) = _
    rw [sh_add, shs_add ws]
    rfl
theorem shs_app : ∀ (ws vs : List Int) (f : Nat → Int), shs (ws ++ vs) f = shs vs (shs ws f)
  | [], _, _ => rfl
  | w :: ws, vs, f => shs_app ws vs (sh w f)
theorem shs_sh : ∀ (ws : List Int) (v : Int) (f : Nat → Int), shs ws (sh v f) = sh v (shs ws f)
  | [], _, _ => rfl
  | w :: ws, v, f => by
    show shs ws (sh w (sh v f)) = sh v (shs ws (sh w f))
    rw [sh_comm, shs_sh ws]
theorem shs_comm : ∀ (ws vs : List Int) (f : Nat → Int), shs ws (shs vs f) = shs vs (shs ws f)
  | ws, [], _ => rfl
  | ws, v :: vs, f => by
    show shs ws (shs vs (sh v f)) = shs vs (sh v (shs ws f))
    rw [shs_comm ws vs, shs_sh]
theorem shs_nil : ∀ (ws : List Int), shs ws (fun _ => 0) = fun _ => 0
  | [] => rfl
  | w :: ws => by
    show shs ws (sh w _) = _
    have : sh w (fun _ => (0 : Int)) = fun _ => 0 := by funext x; simp [sh]
    rw [this, shs_nil ws]
theorem sh_pow (z w c : Int) (f : Nat → Int) : sh (z * w) (fun x => c * z ^ x * f x) = fun x => c * z * z ^ x * sh w f x := by
  funext x
  simp only [sh, Int.pow_succ, Int.mul_sub]
  have e1 : c * (z ^ x * z) * f (x + 1) = c * z * z ^ x * f (x + 1) := by rw [Int.mul_comm (z ^ x) z, Int.mul_assoc c z]
  have e2 : z * w * (c * z ^ x * f x) = c * z * z ^ x * (w * f x) := by
    simp only [Int.mul_assoc, Int.mul_left_comm, Int.mul_comm]
  rw [e1, e2]
theorem shs_pow (z : Int) : ∀ (ws : List Int) (c : Int) (f : Nat → Int), (shs ws f = fun _ => 0) → shs (ws.map (z * ·)) (fun x => c * z ^ x * f x) = fun _ => 0
  | [], c, f, h => by
    have : f = fun _ => 0 := h
    funext x
    simp [shs, this]
  | w :: ws, c, f, h => by
    show shs (ws.map (z * ·)) (sh (z * w) _) = _
    rw [sh_pow]
    exact shs_pow z ws (c * z) (sh w f) h
/-- the product of 1 - c z^x over a list of pairs, and what annihilates it -/
def prodOf : List (Int × Int) → Nat → Int
  | [], _ => 1
  | p :: r, x => prodOf r x + (-p.1) * p.2 ^ x * prodOf r x
def wsOf : List (Int × Int) → List Int
  | [] => [1]
  | p :: r => wsOf r ++ (wsOf r).map (p.2 * ·)
theorem wsOf_len : ∀ (l : List (Int × Int)), (wsOf l).length = 2 ^ l.length
  | [] => rfl
  | p :: r => by
    simp only [wsOf, List.length_append, List.length_map, List.length_cons, wsOf_len r, Nat.pow_succ]
    lia
theorem prod_ann : ∀ (l : List (Int × Int)), shs (wsOf l) (prodOf l) = fun _ => 0
  | [] => by funext x; simp [wsOf, shs, sh, prodOf]
  | p :: r => by
    have ih := prod_ann r
    show shs (wsOf r ++ _) (fun x => prodOf r x + (-p.1) * p.2 ^ x * prodOf r x) = _
    rw [shs_add, shs_app, shs_app, ih, shs_nil, shs_comm, shs_pow p.2 _ _ _ ih, shs_nil]
    rfl
theorem prod_zero {N : Int} (l : List (Int × Int)) (c : Nat) (h : ∀ i, i < 2 ^ l.length → N ∣ prodOf l (c + i)) (j : Nat) : N ∣ prodOf l (c + j) :=
  shs_zero (wsOf l) (prodOf l) c (fun x => by rw [prod_ann]; exact Int.dvd_zero N) (fun i hi => h i (by rwa [wsOf_len] at hi)) j
end RS
end PartV1

section PartV2
set_option maxRecDepth 100000
namespace RS
/-- powers modulo N, by squaring -/
def pm (N : Nat) : Nat → Nat → Nat → Nat
  | 0, _, _ => 1
  | fuel + 1, b, e => if e = 0 then 1 else if e % 2 = 1 then b * pm N fuel (b * b % N) (e / 2) % N else pm N fuel (b * b % N) (e / 2)
theorem pm_spec (N : Nat) : ∀ (fuel b e : Nat), e < 2 ^ fuel → pm N fuel b e % N = b ^ e % N
  | 0, b, e, h => by
    have : e = 0 := by simpa using h
    subst this
    rfl
  | fuel + 1, b, e, h => by
    unfold pm
    by_cases h0 : e = 0
    · subst h0; rfl
    · rw [if_neg h0]
      have hlt : e / 2 < 2 ^ fuel := by rw [Nat.pow_succ] at h; lia
      have ih := pm_spec N fuel (b * b % N) (e / 2) hlt
      have e1 : (b * b % N) ^ (e / 2) % N = b ^ (2 * (e / 2)) % N := by
        rw [← Nat.pow_mod, Nat.pow_mul, Nat.pow_two]
      rw [e1] at ih
      by_cases h1 : e % 2 = 1
      · rw [if_pos h1, Nat.mod_mod, Nat.mul_mod, ih, ← Nat.mul_mod]
        have : b * b ^ (2 * (e / 2)) = b ^ e := by
          rw [← Nat.pow_succ']
          congr 1
          lia
        rw [this]
      · rw [if_neg h1, ih]
        have : 2 * (e / 2) = e := by lia
        rw [this]
def bigL : Nat := 9690712164777231700912800
def bigN : Nat := 19381424329554463401825601
theorem pow_L : 3721 ^ bigL % bigN = 1 := by
  rw [← pm_spec bigN 90 3721 bigL (by decide +kernel)]
  decide +kernel
end RS
end PartV2

section PartV3
set_option maxRecDepth 100000
namespace RS
/-- a unit modulo N -/
def Un (N u : Int) : Prop := ∃ v, N ∣ u * v - 1
theorem Un.cancel {N u y : Int} (h : Un N u) (hd : N ∣ u * y) : N ∣ y := by
  obtain ⟨v, hv⟩ := h
  have h1 : N ∣ u * y * v := Int.dvd_mul_of_dvd_left hd
  have h2 : N ∣ (u * v - 1) * y := Int.dvd_mul_of_dvd_left hv
  have e : y = u * y * v - (u * v - 1) * y := by
    have e1 : u * y * v = u * v * y := by rw [Int.mul_assoc, Int.mul_comm y v, ← Int.mul_assoc]
    rw [e1, Int.sub_mul, Int.one_mul]
    lia
  rw [e]
  exact Int.dvd_sub h1 h2
theorem Un.of_mul {N a b : Int} (h : Un N (a * b)) : Un N a := by
  obtain ⟨v, hv⟩ := h
  exact ⟨b * v, by rwa [← Int.mul_assoc]⟩
theorem Un.of_dvd {N a b : Int} (h : Un N b) (hd : a ∣ b) : Un N a := by
  obtain ⟨c, rfl⟩ := hd
  exact h.of_mul
theorem Un.congr {N a b : Int} (h : Un N a) (hd : N ∣ a - b) : Un N b := by
  obtain ⟨v, hv⟩ := h
  refine ⟨v, ?_⟩
  have e : b * v - 1 = (a * v - 1) - (a - b) * v := by rw [Int.sub_mul]; lia
  rw [e]
  exact Int.dvd_sub hv (Int.dvd_mul_of_dvd_left hd)
theorem Un.neg {N a : Int} (h : Un N a) : Un N (-a) := by
  obtain ⟨v, hv⟩ := h
  exact ⟨-v, by rwa [Int.neg_mul_neg]⟩
theorem Un.not_dvd {N a : Int} (hN : 1 < N) (h : Un N a) : ¬ N ∣ a := by
  intro hd
  obtain ⟨v, hv⟩ := h
  have h1 : N ∣ 1 := by
    have h0 : N ∣ a * v := Int.dvd_mul_of_dvd_left hd
    have := Int.dvd_sub h0 hv
    have e : a * v - (a * v - 1) = 1 := by lia
    rwa [e] at this
  have := Int.le_of_dvd (by decide) h1
  lia
/-- a - 1 divides a^k - 1 -/
theorem sub_dvd_pow (a : Int) : ∀ k : Nat, a - 1 ∣ a ^ k - 1
  | 0 => by simp
  | k + 1 => by
    have ih := sub_dvd_pow a k
    have e : a ^ (k + 1) - 1 = a * (a ^ k - 1) + (a - 1) := by rw [Int.pow_succ, Int.mul_sub, Int.mul_comm a (a ^ k)]; lia
    rw [e]
    exact Int.dvd_add (Int.dvd_mul_of_dvd_right ih) (Int.dvd_refl _)
/-- the product is zero modulo N where a factor is, if the others are units -/
theorem prod_iff {N : Int} (hN : 1 < N) (x : Nat) : ∀ (l : List (Int × Int)), (∀ p ∈ l, Un N (1 - p.1 * p.2 ^ x) ∨ N ∣ 1 - p.1 * p.2 ^ x) → (N ∣ prodOf l x ↔ ∃ p ∈ l, N ∣ 1 - p.1 * p.2 ^ x)
  | [], _ => by
    constructor
    · intro h
      have := Int.le_of_dvd (by decide) (show N ∣ 1 from h)
      lia
    · rintro ⟨p, hp, _⟩; cases hp
  | p :: r, h => by
    have e : prodOf (p :: r) x = (1 - p.1 * p.2 ^ x) * prodOf r x := by
      show prodOf r x + (-p.1) * p.2 ^ x * prodOf r x = _
      rw [Int.sub_mul, Int.one_mul, Int.neg_mul, Int.neg_mul]
      lia
    have ih := prod_iff hN x r fun q hq => h q (.tail _ hq)
    rw [e]
    constructor
    · intro hd
      rcases h p (.head _) with hu | hz
      · obtain ⟨q, hq, hq2⟩ := ih.mp (hu.cancel hd)
        exact ⟨q, .tail _ hq, hq2⟩
      · exact ⟨p, .head _, hz⟩
    · rintro ⟨q, hq, hz⟩
      rcases List.mem_cons.mp hq with rfl | hq
      · exact Int.dvd_mul_of_dvd_left hz
      · exact Int.dvd_mul_of_dvd_right (ih.mpr ⟨q, hq, hz⟩)
end RS
end PartV3

section PartV4
set_option maxRecDepth 100000
namespace RS
theorem un_pow {e v : Nat} (he : e < 2 ^ 90) (h : (pm bigN 90 3721 e + (bigN - 1)) * v % bigN = 1) : Un (bigN : Int) ((3721 : Int) ^ e - 1) := by
  have h1 : (3721 ^ e + (bigN - 1)) * v % bigN = 1 := by
    rw [Nat.mul_mod, Nat.add_mod, ← pm_spec bigN 90 3721 e he, ← Nat.add_mod, ← Nat.mul_mod]
    exact h
  refine ⟨v, ?_⟩
  have h2 := Nat.div_add_mod ((3721 ^ e + (bigN - 1)) * v) bigN
  rw [h1] at h2
  have hb : ((bigN - 1 : Nat) : Int) = (bigN : Int) - 1 := by decide
  have h3 : ((3721 : Int) ^ e + ((bigN : Int) - 1)) * v = (bigN : Int) * (((3721 ^ e + (bigN - 1)) * v / bigN : Nat) : Int) + 1 := by
    rw [← hb]
    exact_mod_cast h2.symm
  refine ⟨(((3721 ^ e + (bigN - 1)) * v / bigN : Nat) : Int) - v, ?_⟩
  rw [Int.mul_sub, Int.sub_mul]
  rw [Int.add_mul, Int.sub_mul] at h3
  lia
theorem un_2 : Un (bigN : Int) ((3721 : Int) ^ (bigL / 2) - 1) := un_pow (v := 9690712164777231700912800) (by decide +kernel) (by decide +kernel)
theorem un_3 : Un (bigN : Int) ((3721 : Int) ^ (bigL / 3) - 1) := un_pow (v := 14450294377937614068395439) (by decide +kernel) (by decide +kernel)
theorem un_5 : Un (bigN : Int) ((3721 : Int) ^ (bigL / 5) - 1) := un_pow (v := 6265912408240324184954301) (by decide +kernel) (by decide +kernel)
theorem un_7 : Un (bigN : Int) ((3721 : Int) ^ (bigL / 7) - 1) := un_pow (v := 19329475642667286777145447) (by decide +kernel) (by decide +kernel)
theorem un_11 : Un (bigN : Int) ((3721 : Int) ^ (bigL / 11) - 1) := un_pow (v := 12579499679703692263494495) (by decide +kernel) (by decide +kernel)
theorem un_13 : Un (bigN : Int) ((3721 : Int) ^ (bigL / 13) - 1) := un_pow (v := 4829435926266119507934028) (by decide +kernel) (by decide +kernel)
theorem un_17 : Un (bigN : Int) ((3721 : Int) ^ (bigL / 17) - 1) := un_pow (v := 15611387006816071360417063) (by decide +kernel) (by decide +kernel)
theorem un_19 : Un (bigN : Int) ((3721 : Int) ^ (bigL / 19) - 1) := un_pow (v := 16587040288776752941901720) (by decide +kernel) (by decide +kernel)
theorem un_23 : Un (bigN : Int) ((3721 : Int) ^ (bigL / 23) - 1) := un_pow (v := 14459340379199646360828110) (by decide +kernel) (by decide +kernel)
theorem un_29 : Un (bigN : Int) ((3721 : Int) ^ (bigL / 29) - 1) := un_pow (v := 7867109161021461304768351) (by decide +kernel) (by decide +kernel)
theorem un_31 : Un (bigN : Int) ((3721 : Int) ^ (bigL / 31) - 1) := un_pow (v := 615377950053936998073168) (by decide +kernel) (by decide +kernel)
theorem un_37 : Un (bigN : Int) ((3721 : Int) ^ (bigL / 37) - 1) := un_pow (v := 16247270082265582963975745) (by decide +kernel) (by decide +kernel)
theorem un_41 : Un (bigN : Int) ((3721 : Int) ^ (bigL / 41) - 1) := un_pow (v := 9155257777570960973841744) (by decide +kernel) (by decide +kernel)
theorem un_43 : Un (bigN : Int) ((3721 : Int) ^ (bigL / 43) - 1) := un_pow (v := 3637955241537986069183708) (by decide +kernel) (by decide +kernel)
theorem un_47 : Un (bigN : Int) ((3721 : Int) ^ (bigL / 47) - 1) := un_pow (v := 10374611054499146897957695) (by decide +kernel) (by decide +kernel)
theorem un_53 : Un (bigN : Int) ((3721 : Int) ^ (bigL / 53) - 1) := un_pow (v := 19029627013716989357866107) (by decide +kernel) (by decide +kernel)
theorem un_59 : Un (bigN : Int) ((3721 : Int) ^ (bigL / 59) - 1) := un_pow (v := 7989829669917474515727118) (by decide +kernel) (by decide +kernel)
def bigP : List Nat := [2, 3, 5, 7, 11, 13, 17, 19, 23, 29, 31, 37, 41, 43, 47, 53, 59]
theorem un_all : ∀ q ∈ bigP, Un (bigN : Int) ((3721 : Int) ^ (bigL / q) - 1) := by
  intro q hq
  simp only [bigP, List.mem_cons, List.not_mem_nil, or_false] at hq
  rcases hq with rfl | rfl | rfl | rfl | rfl | rfl | rfl | rfl | rfl | rfl | rfl | rfl | rfl | rfl | rfl | rfl | rfl
  · exact un_2
  · exact un_3
  · exact un_5
  · exact un_7
  · exact un_11
  · exact un_13
  · exact un_17
  · exact un_19
  · exact un_23
  · exact un_29
  · exact un_31
  · exact un_37
  · exact un_41
  · exact un_43
  · exact un_47
  · exact un_53
  · exact un_59
end RS
end PartV4

section PartV5
set_option Elab.async false
set_option maxRecDepth 100000
namespace RS
theorem pow_gcd (a : Int) (m n : Nat) : ∃ x y : Int, a ^ (Nat.gcd m n) - 1 = x * (a ^ m - 1) + y * (a ^ n - 1) := by
  induction m, n using Nat.gcd.induction with
  | H0 n => exact ⟨0, 1, by rw [Nat.gcd_zero_left]; lia⟩
  | H1 m n hm ih =>
    obtain ⟨x, y, e⟩ := ih
    rw [Nat.gcd_rec, e]
    obtain ⟨c, hc⟩ := sub_dvd_pow (a ^ m) (n / m)
    have e1 : a ^ n = a ^ (n % m) * (a ^ m) ^ (n / m) := by
      rw [← Int.pow_mul, ← Int.pow_add, Nat.mod_add_div]
    refine ⟨y - x * a ^ (n % m) * c, x, ?_⟩
    have e2 : (a ^ m) ^ (n / m) = (a ^ m - 1) * c + 1 := by lia
    rw [e1, e2]
    generalize a ^ (n % m) = r
    generalize a ^ m = t
    grind
theorem bigL_eq : bigL = 2 ^ 5 * 3 ^ 3 * 5 ^ 2 * 7 ^ 2 * 11 * 13 * 17 * 19 * 23 * 29 * 31 * 37 * 41 * 43 * 47 * 53 * 59 := by decide +kernel
theorem bigP_prime : ∀ q ∈ bigP, ∀ d, d < 60 → d ∣ q → d = 1 ∨ d = q := by decide +kernel
theorem some_prime {n : Nat} (h1 : n ∣ bigL) (h2 : n ≠ 1) : ∃ q ∈ bigP, q ∣ n := by
  apply Classical.byContradiction
  intro hc
  have hco : ∀ q ∈ bigP, Nat.Coprime n q := fun q hq => by
    have hq60 : q < 60 ∧ 0 < q := (by decide +kernel : ∀ q ∈ bigP, q < 60 ∧ 0 < q) q hq
    have hd : Nat.gcd n q ∣ q := Nat.gcd_dvd_right _ _
    have hle := Nat.le_of_dvd hq60.2 hd
    rcases bigP_prime q hq _ (by lia) hd with e | e
    · exact e
    · exact absurd ⟨q, hq, e ▸ Nat.gcd_dvd_left n q⟩ hc
  have hL : Nat.Coprime n bigL := by
    rw [bigL_eq]
    have c := fun q hq => hco q hq
    refine .mul_right (.mul_right (.mul_right (.mul_right (.mul_right (.mul_right (.mul_right (.mul_right (.mul_right (.mul_right (.mul_right (.mul_right (.mul_right (.mul_right (.mul_right (.mul_right ?_ ?_) ?_) ?_) ?_) ?_) ?_) ?_) ?_) ?_) ?_) ?_) ?_) ?_) ?_) ?_) ?_
    · exact Nat.Coprime.pow_right _ (c 2 (by decide))
    · exact Nat.Coprime.pow_right _ (c 3 (by decide))
    · exact Nat.Coprime.pow_right _ (c 5 (by decide))
    · exact Nat.Coprime.pow_right _ (c 7 (by decide))
    all_goals exact c _ (by decide)
  have : Nat.gcd n bigL = n := Nat.gcd_eq_left h1
  exact h2 (this ▸ hL)
theorem pow_bigL (t : Nat) : (bigN : Int) ∣ (3721 : Int) ^ (bigL * t) - 1 := by
  have h0 : (bigN : Int) ∣ (3721 : Int) ^ bigL - 1 := by
    have e := pow_L
    have e2 : ((3721 ^ bigL : Nat) : Int) % (bigN : Int) = 1 := by rw [← Int.natCast_emod, e]; rfl
    rw [Int.natCast_pow] at e2
    exact Int.dvd_self_sub_of_emod_eq e2
  rw [Int.pow_mul]
  exact Int.dvd_trans h0 (sub_dvd_pow _ _)
theorem un_j {j : Nat} (h : ¬ bigL ∣ j) : Un (bigN : Int) ((3721 : Int) ^ j - 1) := by
  have hd1 : Nat.gcd j bigL ∣ bigL := Nat.gcd_dvd_right _ _
  obtain ⟨n, hn⟩ := hd1
  have hL0 : 0 < bigL := by decide
  have hne : n ≠ 1 := fun e => h (by
    rw [e, Nat.mul_one] at hn
    rw [hn]; exact Nat.gcd_dvd_left _ _)
  obtain ⟨q, hq, m, rfl⟩ := some_prime (n := n) ⟨Nat.gcd j bigL, by rw [Nat.mul_comm]; exact hn⟩ hne
  have hq0 : 0 < q := (by decide +kernel : ∀ q ∈ bigP, 0 < q) q hq
  have e1 : bigL / q = Nat.gcd j bigL * m := by
    have : bigL = (Nat.gcd j bigL * m) * q := by rw [Nat.mul_assoc, Nat.mul_comm m q]; exact hn
    rw [this, Nat.mul_div_cancel _ hq0]
    exact congrArg (· * m) (congrArg (Nat.gcd j) this)
  have hu := un_all q hq
  rw [e1, Int.pow_mul] at hu
  obtain ⟨v, hv⟩ := hu.of_dvd (sub_dvd_pow _ m)
  obtain ⟨x, y, e⟩ := pow_gcd 3721 j bigL
  have hz := pow_bigL 1
  rw [Nat.mul_one] at hz
  obtain ⟨z, hz⟩ := hz
  obtain ⟨k, hk⟩ := hv
  refine ⟨x * v, k - y * z * v, ?_⟩
  rw [e, hz] at hk
  generalize (3721 : Int) ^ j - 1 = A at *
  generalize (bigN : Int) = B at *
  grind
end RS
end PartV5

section PartPC
open PySem PySem.W PyProof.Rows
set_option Elab.async false
set_option maxRecDepth 100000
namespace RS
theorem bigL_div : ∀ k, k < 61 → 1 ≤ k → bigL / k * k = bigL := by decide +kernel
/-- one ruler's factor -/
def facOf (c0 : Int) (q : Int × Int) : Int × Int := ((3721 : Int) ^ (bigL / q.2.toNat * ((c0 - q.1) % q.2).toNat), (3721 : Int) ^ (bigL / q.2.toNat))
theorem fac_is {c0 : Int} {q : Int × Int} (h1 : 1 ≤ q.2) (h2 : q.2 ≤ 60) (x : Nat) :
    ((bigN : Int) ∣ 1 - (facOf c0 q).1 * (facOf c0 q).2 ^ x ↔ (c0 + x - q.1) % q.2 = 0) ∧ (Un (bigN : Int) (1 - (facOf c0 q).1 * (facOf c0 q).2 ^ x) ∨ (bigN : Int) ∣ 1 - (facOf c0 q).1 * (facOf c0 q).2 ^ x) := by
  obtain ⟨k, hk⟩ := Int.eq_ofNat_of_zero_le (show 0 ≤ q.2 by lia)
  have hLk := bigL_div k (by lia) (by lia)
  have hb0 := Int.emod_nonneg (c0 - q.1) (b := q.2) (by lia)
  obtain ⟨b, hb⟩ := Int.eq_ofNat_of_zero_le hb0
  have e : (facOf c0 q).1 * (facOf c0 q).2 ^ x = (3721 : Int) ^ (bigL / k * (b + x)) := by
    unfold facOf
    dsimp only
    rw [hb, hk, Int.toNat_natCast, Int.toNat_natCast, ← Int.pow_mul, ← Int.pow_add, Nat.mul_add]
  have hiff : (c0 + x - q.1) % q.2 = 0 ↔ k ∣ b + x := by
    rw [show c0 + (x : Int) - q.1 = (c0 - q.1) + x by lia, Int.add_emod, hb, ← Int.natCast_dvd_natCast, Int.dvd_iff_emod_eq_zero, Int.natCast_add]
    rw [hk] at hb ⊢
    have hbk : ((b : Int)) % (k : Int) = b := by rw [← hb]; exact Int.emod_emod_of_dvd _ (Int.dvd_refl _)
    rw [Int.add_emod (b : Int) x, hbk]
  have hN1 : (1 : Int) < (bigN : Int) := by decide
  rw [e, hiff]
  by_cases hd : k ∣ b + x
  · obtain ⟨t, ht⟩ := hd
    have e2 : bigL / k * (b + x) = bigL * t := by rw [ht, ← Nat.mul_assoc, hLk]
    have hdv : (bigN : Int) ∣ 1 - (3721 : Int) ^ (bigL / k * (b + x)) := by
      rw [e2]
      have := pow_bigL t
      rw [← Int.dvd_neg]
      rwa [Int.neg_sub]
    exact ⟨⟨fun _ => ⟨t, ht⟩, fun _ => hdv⟩, .inr hdv⟩
  · have hnj : ¬ bigL ∣ bigL / k * (b + x) := fun h => hd (by
      have h0 : 0 < bigL / k := by
        apply Nat.pos_of_ne_zero
        intro z
        rw [z, Nat.zero_mul] at hLk
        exact absurd hLk.symm (by decide)
      have h1 : bigL / k * k ∣ bigL / k * (b + x) := hLk.symm ▸ h
      exact Nat.dvd_of_mul_dvd_mul_left h0 h1)
    have hu := (un_j hnj).neg
    rw [Int.neg_sub] at hu
    exact ⟨⟨fun h => absurd h (hu.not_dvd hN1), fun h => absurd h hd⟩, .inl hu⟩
theorem cover_iff {ps : List (Int × Int)} (h : ∀ p ∈ ps, 1 ≤ p.1 ∧ p.1 ≤ p.2 ∧ p.2 ≤ 60) (c0 : Int) (x : Nat) : (bigN : Int) ∣ prodOf (ps.map (facOf c0)) x ↔ onAny ps (c0 + x) = true := by
  rw [prod_iff (by decide) x (ps.map (facOf c0)) fun p hp => by
    obtain ⟨q, hq, rfl⟩ := List.mem_map.mp hp
    exact (fac_is (by have := h q hq; lia) (h q hq).2.2 x).2]
  unfold onAny
  rw [List.any_eq_true]
  constructor
  · rintro ⟨p, hp, hd⟩
    obtain ⟨q, hq, rfl⟩ := List.mem_map.mp hp
    exact ⟨q, hq, decide_eq_true ((fac_is (by have := h q hq; lia) (h q hq).2.2 x).1.mp hd)⟩
  · rintro ⟨q, hq, hd⟩
    exact ⟨_, List.mem_map_of_mem hq, (fac_is (by have := h q hq; lia) (h q hq).2.2 x).1.mpr (of_decide_eq_true hd)⟩
/-- 2^k columns side by side on rulers: all later ones are -/
theorem cover_step {ps : List (Int × Int)} (h : ∀ p ∈ ps, 1 ≤ p.1 ∧ p.1 ≤ p.2 ∧ p.2 ≤ 60) (c0 : Int) (hc : ∀ i : Nat, i < 2 ^ ps.length → onAny ps (c0 + i) = true) (j : Nat) : onAny ps (c0 + j) = true := by
  have := prod_zero (N := (bigN : Int)) (ps.map (facOf c0)) 0 (fun i hi => by
    rw [List.length_map] at hi
    rw [Nat.zero_add]
    exact (cover_iff h c0 i).mpr (hc i hi)) j
  rw [Nat.zero_add] at this
  exact (cover_iff h c0 j).mp this
theorem cover_per {ps : List (Int × Int)} (h : ∀ p ∈ ps, 1 ≤ p.1 ∧ p.1 ≤ p.2 ∧ p.2 ≤ 60) (y : Int) (hy : onAny ps (y + bigL) = true) : onAny ps y = true := by
  unfold onAny at *
  rw [List.any_eq_true] at *
  obtain ⟨q, hq, hd⟩ := hy
  refine ⟨q, hq, decide_eq_true ?_⟩
  have hd := of_decide_eq_true hd
  obtain ⟨r1, r2, r3⟩ := h q hq
  obtain ⟨k, hk⟩ := Int.eq_ofNat_of_zero_le (show 0 ≤ q.2 by lia)
  have hLk := bigL_div k (by lia) (by lia)
  rw [hk] at hd ⊢
  have e : y + (bigL : Int) - q.1 = (y - q.1) + (k : Int) * ((bigL / k : Nat) : Int) := by
    have : (bigL : Int) = (k : Int) * ((bigL / k : Nat) : Int) := by rw [← Int.natCast_mul, Nat.mul_comm, hLk]
    lia
  rw [e, Int.add_mul_emod_self_left] at hd
  exact hd
theorem reach_all {ps : List (Int × Int)} {bd rc : Nat} (hrc : reachOf (rowOf ps bd) = rc) : rc = bd ↔ ∀ j : Nat, j < bd → onAny ps (1 + (j : Int)) = true := by
  obtain ⟨rh1, rh2, rh3⟩ := reach_spec (row_sorted ps bd) row_pos
  rw [hrc] at rh1 rh2 rh3
  have hrl := row_len ps bd
  constructor
  · intro e j hj
    have hm : (1 + (j : Int)) ∈ (rowOf ps bd).take rc := by
      rw [rh2]
      exact List.mem_map.mpr ⟨j, List.mem_range.mpr (by lia), rfl⟩
    exact (row_mem.mp (List.mem_of_mem_take hm)).2.2
  · intro hc
    apply Classical.byContradiction
    intro hne
    refine rh3 (row_mem.mpr ⟨by lia, by lia, ?_⟩)
    have := hc rc (by lia)
    rwa [show 1 + (rc : Int) = rc + 1 by lia] at this
theorem far_iff {ps : List (Int × Int)} {bd x rc : Nat} (hfin : RFin ps) (hbd : 2 ^ ps.length = bd) (hrc : reachOf (rowOf ps bd) = rc) (hx : x ≤ 300) {ns : List Int} (hs : ns.Pairwise (· < ·)) (hm : ∀ y : Int, y ∈ ns ↔ (x : Int) < y ∧ y ≤ x + bd ∧ ∃ p ∈ ps, p.2 ∣ y - p.1) :
    decide (ns = (List.range bd).map fun j : Nat => (x : Int) + 1 + (j : Int)) = decide ((rc : Int) = bd) := by
  have hm' : ∀ y : Int, y ∈ ns ↔ (x : Int) < y ∧ y ≤ x + bd ∧ onAny ps y = true := fun y => by
    rw [hm]
    unfold onAny
    rw [List.any_eq_true]
    constructor
    · rintro ⟨a, b, p, hp, hd⟩
      exact ⟨a, b, p, hp, decide_eq_true (Int.emod_eq_zero_of_dvd hd)⟩
    · rintro ⟨a, b, p, hp, hd⟩
      exact ⟨a, b, p, hp, Int.dvd_of_emod_eq_zero (of_decide_eq_true hd)⟩
  have hA : ns = ((List.range bd).map fun j : Nat => (x : Int) + 1 + (j : Int)) ↔ ∀ j : Nat, j < bd → onAny ps ((x : Int) + 1 + j) = true := by
    constructor
    · intro e j hj
      have : (x : Int) + 1 + (j : Int) ∈ ns := by rw [e]; exact List.mem_map.mpr ⟨j, List.mem_range.mpr hj, rfl⟩
      exact ((hm' _).mp this).2.2
    · intro hc
      have hsr : ((List.range bd).map fun j : Nat => (x : Int) + 1 + (j : Int)).Pairwise (· < ·) := by
        rw [List.pairwise_map]
        exact (List.pairwise_lt_range (n := bd)).imp fun {a b} h => by lia
      refine sorted_ext hs hsr fun y => ?_
      rw [hm', List.mem_map]
      constructor
      · rintro ⟨a, b, _⟩
        exact ⟨(y - x - 1).toNat, List.mem_range.mpr (by lia), by lia⟩
      · rintro ⟨j, hj, rfl⟩
        rw [List.mem_range] at hj
        exact ⟨by lia, by lia, hc j hj⟩
  rw [decide_eq_decide, hA, show ((rc : Int) = bd) ↔ rc = bd by lia, reach_all hrc]
  constructor
  · intro h j hj
    have hall := cover_step hfin.2 ((x : Int) + 1) (fun i hi => h i (by lia))
    refine cover_per hfin.2 _ ?_
    have hbig : (300 : Int) ≤ bigL := by decide
    have := hall (1 + (j : Int) + bigL - x - 1).toNat
    rwa [show (x : Int) + 1 + (((1 + (j : Int) + bigL - x - 1).toNat : Nat) : Int) = 1 + (j : Int) + bigL by lia] at this
  · intro h j hj
    have hall := cover_step hfin.2 1 (fun i hi => h i (by lia)) (x + j)
    rwa [show (1 : Int) + ((x + j : Nat) : Int) = (x : Int) + 1 + j by lia] at hall
end RS
end PartPC

section Shared0
open PySem PySem.W PyProof.Rows PySem.Calls RS
local macro_rules | `(tactic| walk_at "eval Name") => `(tactic| (k_here; k_dflt (first
  | (refine' Vw.loadL ?V ?a ?b ?c ?_; (case a => rfl); (case b => rfl); (case V => with_reducible first | assumption | exact Sit.v (Fm.s (by assumption))); (case c => with_reducible assumption))
  | (refine' Vw.loadC ?V ?a ?b ?d ?c ?_; (case a => rfl); (case b => rfl); (case d => rfl); (case V => with_reducible first | assumption | exact Sit.v (Fm.s (by assumption))); (case c => with_reducible assumption))
  | (refine' nameG ?X ?T ?k ?a ?b ?c ?e ?_; (case a => rfl); (case b => rfl); (case c => rfl); (case X => assumption); (case T => assumption); (case k => first | with_reducible assumption | assumption | exact Fm.kb (by assumption)); (case e => k_is))
  | (refine' nameB ?X ?T ?k ?a ?a2 ?b ?c ?e ?v ?n ?_; (case a => rfl); (case a2 => rfl); (case b => rfl); (case c => rfl); (case X => assumption); (case T => assumption); (case k => first | with_reducible assumption | assumption | exact Fm.kb (by assumption)); (case e => k_is); (case v => boot_fast); (case n => decide)))))
local macro_rules | `(tactic| walk_at "binaryOp Mult int int") => `(tactic| (k_here; refine mulS (by omega) ?_))

theorem RS.forgetU2 {prog : PySem.Program} {w : PySem.World} {A : PySem.Around} {env : PySem.Env} {Q : PySem.Flow → PySem.Shared → Prop} {E : PySem.Value → PySem.Shared → Prop} {s : PySem.Shared}
    (h : PySem.wpAny (PySem.model prog w) A (PySem.execs [] env) Q E s) : PySem.wpAny (PySem.model prog w) A (PySem.execs [] env) Q E s := by
  first | (walk1; fail "no") | skip
  w_top off
  exact h

section PartU2
open PySem PySem.W PyProof.Rows PySem.Calls
set_option Elab.async false
set_option maxRecDepth 100000
namespace RS
theorem fillU2 : (fun (_ : Params → Frag) (_ : OpenLaw) => True) hd.heap_1 PySem.Challenge.rw_rs0192_01 := by
  k_fill
  trivial
theorem small_pos {a b c : Int} (ha : -(2 ^ 40) ≤ a) (ha' : a < 2 ^ 40) (hb : -(2 ^ 40) ≤ b) (hb' : b < 2 ^ 40) (hc : 1 ≤ c) (hc' : c < 2 ^ 40) (hs : 0 ≤ Builtin.Range.rangeSize a b c) (hs' : Builtin.Range.rangeSize a b c < 2 ^ 40) : Builtin.Range.small a b c = true := by
  unfold Builtin.Range.small
  generalize Builtin.Range.rangeSize a b c = z at *
  have f : ∀ i : Int, -(2 ^ 50) ≤ i → i < 2 ^ 50 → Builtin.Range.rangeFitsLong i = true := fun i h1 h2 => by
    unfold Builtin.Range.rangeFitsLong
    simp only [Bool.and_eq_true, decide_eq_true_eq]
    lia
  rw [f a (by lia) (by lia), f b (by lia) (by lia), f c (by lia) (by lia), f z (by lia) (by lia), if_pos (by lia), f (b + (c - 1)) (by lia) (by lia)]
  simp
theorem nodup_len {x : Int} : ∀ (b : Nat) (ns : List Int), ns.Nodup → (∀ y ∈ ns, x < y ∧ y ≤ x + b) → ns.length ≤ b
  | 0, ns, _, h => by
    cases ns with
    | nil => exact Nat.le_refl _
    | cons y r => have := h y (.head _); lia
  | b + 1, ns, hn, h => by
    have ih := nodup_len (x := x) b (ns.erase (x + ((b + 1 : Nat) : Int))) (hn.erase _) fun y hy => by
      have h1 := h y (List.mem_of_mem_erase hy)
      have h2 := (hn.mem_erase_iff.mp hy).1
      lia
    have := List.length_erase (a := x + ((b + 1 : Nat) : Int)) (l := ns)
    split at this <;> lia
theorem far_steps {f k x : Int} (hk : 1 ≤ k) : Steps (fun y => decide (y < x + 1)) ((List.range 300).map fun v : Nat => f + k * (v : Int)) := by
  intro i j hij y z hy hz hq
  rw [List.getElem?_map] at hy hz
  obtain ⟨i', hi', rfl⟩ := Option.map_eq_some_iff.mp hy
  obtain ⟨j', hj', rfl⟩ := Option.map_eq_some_iff.mp hz
  obtain ⟨_, rfl⟩ := List.getElem?_eq_some_iff.mp hi'
  obtain ⟨_, rfl⟩ := List.getElem?_eq_some_iff.mp hj'
  simp only [List.getElem_range, decide_eq_true_eq] at hq ⊢
  have : k * (i : Int) ≤ k * (j : Int) := Int.mul_le_mul_of_nonneg_left (by lia) (by lia)
  lia
theorem far_beg {f k x : Int} (hf : 1 ≤ f) (hfk : f ≤ k) (hx : 0 ≤ x) (hx2 : x ≤ 250) : ∃ beg : Nat, ((List.range 300).map fun v : Nat => f + k * (v : Int)).countP (fun y => decide (y < x + 1)) = beg ∧ beg ≤ 251 ∧ x < f + k * beg ∧ (beg = 0 ∨ f + k * ((beg : Int) - 1) ≤ x) := by
  have key : ∃ beg : Nat, beg ≤ 251 ∧ x < f + k * beg ∧ (beg = 0 ∨ f + k * ((beg : Int) - 1) ≤ x) := by
    by_cases h : x < f
    · exact ⟨0, by lia, by simpa using h, .inl rfl⟩
    · have e1 := Int.emod_add_mul_ediv (x - f) k
      have e2 := Int.emod_nonneg (x - f) (b := k) (by lia)
      have e3 := Int.emod_lt_of_pos (x - f) (b := k) (by lia)
      have e4 : 0 ≤ (x - f) / k := Int.ediv_nonneg (by lia) (by lia)
      have e5 : (x - f) / k ≤ x - f := Int.ediv_le_self _ (by lia)
      refine ⟨((x - f) / k).toNat + 1, by lia, ?_, .inr ?_⟩
      · rw [Int.natCast_add, Int.toNat_of_nonneg e4, Int.mul_add]; simp only [Int.natCast_one, Int.mul_one]; lia
      · rw [Int.natCast_add, Int.toNat_of_nonneg e4]; simp only [Int.natCast_one, Int.add_sub_cancel]; lia
  obtain ⟨beg, b1, b2, b3⟩ := key
  refine ⟨beg, countP_cut (by simp; lia) (fun i hi y hy => ?_) fun i hi y hy => ?_, b1, b2, b3⟩
  · rw [List.getElem?_map] at hy
    obtain ⟨i', hi', rfl⟩ := Option.map_eq_some_iff.mp hy
    obtain ⟨_, rfl⟩ := List.getElem?_eq_some_iff.mp hi'
    simp only [List.getElem_range, decide_eq_true_eq]
    rcases b3 with b3 | b3
    · lia
    · have : k * (i : Int) ≤ k * ((beg : Int) - 1) := Int.mul_le_mul_of_nonneg_left (by lia) (by lia)
      lia
  · rw [List.getElem?_map] at hy
    obtain ⟨i', hi', rfl⟩ := Option.map_eq_some_iff.mp hy
    obtain ⟨_, rfl⟩ := List.getElem?_eq_some_iff.mp hi'
    simp only [List.getElem_range, decide_eq_false_iff_not]
    have : k * (beg : Int) ≤ k * (i : Int) := Int.mul_le_mul_of_nonneg_left (by lia) (by lia)
    lia
local macro_rules | `(tactic| walk_at $k:str) => if ["exec Assign cons ListComp", "exec For", "call ref", "call type:range", "call type:set", "call builtin:sorted", "call builtin:list.extend", "getMethod ref", "eval Lambda", "storeName", "eval ListComp", "newList", "pyIter ref", "assign Tuple", "Post"].contains k.getString then `(tactic| (refine Stop.of ?_)) else Lean.Macro.throwUnsupported
/-- what stands between the turns -/
inductive FarJ (x b : Nat) (tx tb : Tok) (ps : List (Int × Int)) (F : Addr) (qual : Str) (i : Nat) (xs : List (Addr × Obj)) (G : Heap) (m : Str → Option Value) : Prop
  | mk (pt : Array Value) (vs : List Value) (nn : Nat) (ns : List Int) (a1 : xs = [(F, W.listOf (List.toArray vs) nn), (163, tabObj pt)]) (a2 : LamTab { line := 173, col := 55, endLine := 173, endCol := 87 } qual pt G) (a3 : m "found" = some (.ref F)) (a4 : m "ahead" = some (.int (x : Int) tx)) (a5 : m "bound" = some (.int (b : Int) tb)) (a6 : IntsAre vs ns) (a7 : ns.length ≤ 40 * i)
    (a8 : ∀ y : Int, y ∈ ns ↔ (x : Int) < y ∧ y ≤ x + b ∧ ∃ p ∈ ps.take i, p.2 ∣ y - p.1)
namespace Fa
abbrev V : Type := (World) × (Nat) × (Option (List Env)) × (Option (List Code)) × (Nat) × (Shared) × (Program) × (List Str) × (ExcName → Option Value) × (Str → Option Value) × (Str → Option Value) × (Heap) × (Value → Shared → Prop) × (Value → Shared → Prop) × (Addr) × (List Value) × (List (Int × Int)) × (Nat) × (Nat) × (Tok) × (Tok)
def Stmt (w : World) (dA : Nat) (fA : Option (List Env)) (gA : Option (List Code)) (uA : Nat) (s : Shared) (p : Program) (loose : List Str) (mean : ExcName → Option Value) (mg : Str → Option Value) (mb : Str → Option Value) (g : Heap) (Q : Value → Shared → Prop) (E : Value → Shared → Prop) (a : Addr) (rs : List Value) (ps : List (Int × Int)) (x : Nat) (b : Nat) (tx : Tok) (tb : Tok) : Prop := ∀ (X : (hd.heap_1 w.params).In g) (T : Top p loose mean mg mb g) (hk : Sub g s.heap) (C : CodeHd g 167 163) (hgt : g.get? 163 = none) (ht : s.heap.get? 163 = some (tabObj #[])) (hroom : dA + 25 < recursionLimit) (hl : DL s.heap a rs) (hP : PairsAre s.heap rs ps) (hR : RFin ps) (hx : x ≤ 250) (hb : b ≤ 32) (hq : ∀ D vs ns h' d tk gs, DL h' D vs → IntsAre vs ns → ns.Pairwise (· < ·) → (∀ y : Int, y ∈ ns ↔ (x : Int) < y ∧ y ≤ x + b ∧ ∃ p ∈ ps, p.2 ∣ y - p.1) → s.heap.get? D = none → (∀ q o, q ≠ 163 → s.heap.get? q = some o → h'.get? q = some o) → (∃ pt, h'.get? 163 = some (tabObj pt)) → (AllBare s.gens → AllBare gs) →
      Q (.ref D) { s with heap := h', drawn := d, toks := tk, gens := gs }),
    wpAny (model PG w) (Around.mk none dA fA gA uA) (call (.ref 168) [.ref a, .int (x : Int) tx, .int (b : Int) tb]) Q E s
theorem ne : Nonempty V := ⟨((Classical.choice neW), 0, none, none, 0, {}, default, [], (fun _ => none), (fun _ => none), (fun _ => none), {}, (fun _ _ => True), (fun _ _ => True), 0, [], [], 0, 0, 0, 0)⟩
noncomputable def c : V := pick ne fun v => Stmt v.1 v.2.1 v.2.2.1 v.2.2.2.1 v.2.2.2.2.1 v.2.2.2.2.2.1 v.2.2.2.2.2.2.1 v.2.2.2.2.2.2.2.1 v.2.2.2.2.2.2.2.2.1 v.2.2.2.2.2.2.2.2.2.1 v.2.2.2.2.2.2.2.2.2.2.1 v.2.2.2.2.2.2.2.2.2.2.2.1 v.2.2.2.2.2.2.2.2.2.2.2.2.1 v.2.2.2.2.2.2.2.2.2.2.2.2.2.1 v.2.2.2.2.2.2.2.2.2.2.2.2.2.2.1 v.2.2.2.2.2.2.2.2.2.2.2.2.2.2.2.1 v.2.2.2.2.2.2.2.2.2.2.2.2.2.2.2.2.1 v.2.2.2.2.2.2.2.2.2.2.2.2.2.2.2.2.2.1 v.2.2.2.2.2.2.2.2.2.2.2.2.2.2.2.2.2.2.1 v.2.2.2.2.2.2.2.2.2.2.2.2.2.2.2.2.2.2.2.1 v.2.2.2.2.2.2.2.2.2.2.2.2.2.2.2.2.2.2.2.2
@[irreducible] noncomputable def w : World := c.1
@[irreducible] noncomputable def dA : Nat := c.2.1
@[irreducible] noncomputable def fA : Option (List Env) := c.2.2.1
@[irreducible] noncomputable def gA : Option (List Code) := c.2.2.2.1
@[irreducible] noncomputable def uA : Nat := c.2.2.2.2.1
@[irreducible] noncomputable def s : Shared := c.2.2.2.2.2.1
@[irreducible] noncomputable def p : Program := c.2.2.2.2.2.2.1
@[irreducible] noncomputable def loose : List Str := c.2.2.2.2.2.2.2.1
@[irreducible] noncomputable def mean : ExcName → Option Value := c.2.2.2.2.2.2.2.2.1
@[irreducible] noncomputable def mg : Str → Option Value := c.2.2.2.2.2.2.2.2.2.1
@[irreducible] noncomputable def mb : Str → Option Value := c.2.2.2.2.2.2.2.2.2.2.1
@[irreducible] noncomputable def g : Heap := c.2.2.2.2.2.2.2.2.2.2.2.1
@[irreducible] noncomputable def Q : Value → Shared → Prop := c.2.2.2.2.2.2.2.2.2.2.2.2.1
@[irreducible] noncomputable def E : Value → Shared → Prop := c.2.2.2.2.2.2.2.2.2.2.2.2.2.1
@[irreducible] noncomputable def a : Addr := c.2.2.2.2.2.2.2.2.2.2.2.2.2.2.1
@[irreducible] noncomputable def rs : List Value := c.2.2.2.2.2.2.2.2.2.2.2.2.2.2.2.1
@[irreducible] noncomputable def ps : List (Int × Int) := c.2.2.2.2.2.2.2.2.2.2.2.2.2.2.2.2.1
@[irreducible] noncomputable def x : Nat := c.2.2.2.2.2.2.2.2.2.2.2.2.2.2.2.2.2.1
@[irreducible] noncomputable def b : Nat := c.2.2.2.2.2.2.2.2.2.2.2.2.2.2.2.2.2.2.1
@[irreducible] noncomputable def tx : Tok := c.2.2.2.2.2.2.2.2.2.2.2.2.2.2.2.2.2.2.2.1
@[irreducible] noncomputable def tb : Tok := c.2.2.2.2.2.2.2.2.2.2.2.2.2.2.2.2.2.2.2.2
set_option maxHeartbeats 800000 in
theorem spec_c : Stmt w dA fA gA uA s p loose mean mg mb g Q E a rs ps x b tx tb := by
  intro X T hk C hgt ht hroom hl hP hR hx hb hq
  refine wpAny_call ?_
  refine' enterV (K := hd.heap_1 w.params) [(163, tabObj #[])] (List.forall_mem_cons.mpr ⟨ht, fun _ h => nomatch h⟩) (by simp) X T hk (binds := [("rulers", .ref a), ("ahead", .int (x : Int) tx), ("bound", .int (b : Int) tb)]) ?ho ?hcd ?hroom ?hb ?hkind ?hnd ?c1 ?c2 ?c3 ?_
  case ho => k_is
  case hcd => k_is
  case hroom => dsimp only; lia
  case hb => exact bindsTo_peek (X.keeps hk) (fun S => by kernel_rfl)
  case hkind => exact kindsX (by rfl)
  case hnd => decide +kernel
  case c1 => exact rfl
  case c2 => exact rfl
  case c3 => exact rfl
  intro h₁ tk₁ S0 k₀
  have hg0 : Sub g (hideAll s.heap (List.map (fun x : Addr × Obj => x.1) [(163, tabObj #[])])) := fun q o e => hideAll_get _ (hk q o e) (fun z => by
    rw [List.mem_singleton.mp z, hgt] at e; cases e)
  generalize hm0 : (fun y => List.lookup y [(Str.ofString "rulers", Value.ref a), ("ahead", Value.int (x : Int) tx), ("bound", Value.int (b : Int) tb)].reverse) = m0 at S0
  have n1 : m0 "rulers" = some (.ref a) := by rw [← hm0]; rfl
  have n2 : m0 "ahead" = some (.int (x : Int) tx) := by rw [← hm0]; rfl
  have n3 : m0 "bound" = some (.int (b : Int) tb) := by rw [← hm0]; rfl
  have X' := X.keeps hg0
  have T' := T.keeps hg0
  have C' : CodeHd (hideAll s.heap (List.map (fun x : Addr × Obj => x.1) [(163, tabObj #[])])) 167 163 := C.keeps hg0
  have hG0 : ∀ q o, q ≠ 163 → s.heap.get? q = some o → (hideAll s.heap (List.map (fun x : Addr × Obj => x.1) [(163, tabObj #[])])).get? q = some o := fun q o hq e => hideAll_get _ e (fun z => hq (List.mem_singleton.mp z))
  have hne : ∀ q o, s.heap.get? q = some o → (∃ its n, o.data = .seq its n) → q ≠ 163 := fun q o e ⟨its, n, z⟩ q2 => by
    rw [q2, ht] at e; cases e; cases z
  have L0 : DL (hideAll s.heap (List.map (fun x : Addr × Obj => x.1) [(163, tabObj #[])])) a rs := hl.at fun o e => hG0 _ _ (by
    obtain ⟨nn, e2⟩ := hl
    intro z
    rw [z, ht] at e2; cases e2) e
  have P0 : PairsAre (hideAll s.heap (List.map (fun x : Addr × Obj => x.1) [(163, tabObj #[])])) rs ps := hP.seqs fun q o e z => hG0 _ _ (hne _ _ e z) e
  generalize hideAll s.heap (List.map (fun x : Addr × Obj => x.1) [(163, tabObj #[])]) = G0 at S0 X' T' hg0 hG0 C' L0 P0
  clear X T hg0 C
  have S1 : Fm G0 _ _ _ _ _ := ⟨S0, Sub.refl _⟩
  clear S0 hm0
  k_steps
  refine Stop.go (Fm.lstX S1 fun F h2 S2 hF k2 => ?_)
  dsimp only at hF k2 ⊢
  k_steps
  refine Stop.go ?_
  refine Fm.stL S2 rfl rfl rfl fun h3 tk3 m3 S3 e3 f3 => ?_
  have n1 := (f3 "rulers" (by decide)).trans n1
  have n2 := (f3 "ahead" (by decide)).trans n2
  have n3 := (f3 "bound" (by decide)).trans n3
  have hF0 : s.heap.get? F = none := none_of_sub k₀ hF
  clear S1 S2 f3
  dsimp only at e3 ⊢
  k_steps
  refine Stop.go ?_
  refine wpAny_For ?_
  k_steps
  refine Stop.go ?_
  obtain ⟨qual, hqual⟩ := S3.qualL
  refine Fm.forPairs rfl (fun i xs G m => FarJ x b tx tb ps F qual i xs G m)
    rfl S3 L0 P0 ⟨#[], [], 0, [], rfl, .inl rfl, e3, n2, n3, .nil, by simp, by simp⟩ (fun i xs G G' m J k => ?_) (.inr ⟨rfl, _, rfl⟩) (.inr ⟨rfl, _, rfl⟩) (by decide) (fun i its xs G h m M gs tk p t u hp J kG S6 c1 c2 b2 bare => ?_) (fun xs G h m gs tk J kG S6 bare => ?_)
  · obtain ⟨pt, vs, nn, ns, a1, a2, a3, a4, a5, a6, a7, a8⟩ := J
    exact ⟨pt, vs, nn, ns, a1, a2.keeps k, a3, a4, a5, a6, a7, a8⟩
  · obtain ⟨pt, vs, nn, ns, rfl, a2, a3, a4, a5, a6, a7, a8⟩ := J
    have d1 := (b2 "found" (by decide) (by decide)).trans a3
    have d2 := (b2 "ahead" (by decide) (by decide)).trans a4
    have d3 := (b2 "bound" (by decide) (by decide)).trans a5
    obtain ⟨r1, r2, r3⟩ := hR.2 p (List.mem_of_getElem? hp)
    have hps5 := hR.1
    have hi5 : i < 5 := by have := (List.getElem?_eq_some_iff.mp hp).1; lia
    have hvl : vs.length = ns.length := a6.length
    clear S3
    k_steps
    refine Stop.go (Fm.range1 S6 fun r G7 h7 tk7 t7 u7 S7 g7 hr7 _ => ?_)
    k_steps
    refine Stop.go ?_
    have S7a := S7.xe (ys := (its ++ [(F, W.listOf vs.toArray nn)]) ++ (163, tabObj pt) :: []) (by simp)
    refine Fm.lam S7a T' C' rfl rfl rfl hqual rfl (a2.keeps g7) fun lam c' ctv ps' G8 h8 tk8 S8 g8 a8' hlo hlc hln => ?_
    clear S7 S7a
    dsimp only at hln ⊢
    k_steps
    · exact X'.keeps S8.kb
    refine Stop.go ?_
    refine wpAny_call ?_
    have m1 : M "first" = some (.int p.1 t) := c1
    have S8v := S8.s.v
    refine bl_key (X'.keeps S8.b) (T'.keeps S8.b) S8.s.sub rfl (by show dA + 1 + 10 < _; lia) (φ := fun v => p.1 + p.2 * (v : Int)) (n := 300) (oL := _) ?hlam ⟨S8.s.sub _ _ hlo, rfl⟩ ?hst (S8.s.sub _ _ (g8 _ _ hr7)) (by decide) fun t9 h9 tk9 k9 => ?_
    case hlam =>
      intro A2 s2 v tv Q2 E2 hA2 hd2 k2 hv hq2
      obtain ⟨hA2', dA2, fA2, gA2, uA2⟩ := A2
      dsimp only at hA2 hd2
      subst hA2
      refine wpAny_call ?_
      have hlo2 := k2 _ _ (S8.s.sub _ _ hlo)
      refine lam_enter (binds := [("turn", .int (v : Int) tv)]) (mc := M) hlo2 ((hlc.keeps S8.s.sub).keeps k2) (T'.nolimit.keeps ((S8.kb).trans k2)) (by dsimp only; lia) rfl (List.forall_mem_cons.mpr ⟨rfl, fun _ h => nomatch h⟩) (by simp) ?hcells (fun h1 M1 tk1 V1 k1 b1 f1 => ?_) rfl rfl rfl (by decide)
      case hcells =>
        intro y d e
        rw [List.lookup_cons] at e
        split at e
        · cases e
          rename_i q
          rw [show y = Str.ofString "step" by simpa using q]
          exact ⟨rfl, (S8v.cell (Str.ofString "step") _ rfl).keeps k2⟩
        · rw [List.lookup_cons] at e
          split at e
          · cases e
            rename_i q
            rw [show y = Str.ofString "first" by simpa using q]
            exact ⟨rfl, (S8v.cell (Str.ofString "first") _ rfl).keeps k2⟩
          · cases e
      have b1 := b1 _ (.head _)
      have f1a := (f1 "first" rfl).trans c1
      have f1b := (f1 "step" rfl).trans c2
      dsimp only at b1 f1a f1b
      exact lam_lin V1 rfl rfl rfl f1a rfl rfl f1b rfl rfl b1 (by lia) fun t tk => hq2 _ _ _ k1
    case hst => exact far_steps (by lia)
    dsimp only
    obtain ⟨beg, hbeg, bg1, bg2, bg3⟩ := far_beg (f := p.1) (k := p.2) (x := (x : Int)) r1 r2 (by lia) (by lia)
    rw [hbeg]
    obtain ⟨G9, S9, g9, -⟩ := S8.up (h' := h9) k9
    clear S8 S8v
    refine Fm.stL S9 rfl rfl rfl fun h10 tk10 m10 S10 e10 f10 => ?_
    have c1 := (f10 "first" (by decide)).trans c1
    have c2 := (f10 "step" (by decide)).trans c2
    have d1 := (f10 "found" (by decide)).trans d1
    have d2 := (f10 "ahead" (by decide)).trans d2
    have d3 := (f10 "bound" (by decide)).trans d3
    have hnp : p.2 * (beg : Int) ≤ 60 * 251 := by
      have h1 : p.2 * (beg : Int) ≤ 60 * (beg : Int) := Int.mul_le_mul_of_nonneg_right r3 (by lia)
      lia
    have hnp0 : 0 ≤ p.2 * (beg : Int) := Int.mul_nonneg (by lia) (by lia)
    clear S9
    dsimp only at e10 ⊢
    k_steps
    refine Stop.go ?_
    have S10 := S10.xe (ys := its ++ (F, W.listOf vs.toArray nn) :: (163, tabObj ps') :: []) (by simp)
    refine Fm.methX S10 PySem.F.slot_list_extend PySem.F.type_list_extend ?_
    k_steps
    refine Stop.go (Fm.range3 S10 (by lia) (by lia) (by lia) (by lia) fun r' G11 h11 tk11 S11 g11 hr11 _ => ?_)
    k_steps
    obtain ⟨z1, z2⟩ := far_size (f := p.1) (k := p.2) (x := (x : Int)) (b := (b : Int)) (beg := beg) (by lia) (by lia) bg2
    refine Stop.go (Fm.extX rfl S11 (S11.s.sub _ _ hr11) ?hsmall (Int.toNat_of_nonneg z2).symm (by lia) fun h12 tk12 items nn' G12 S12 g12 hit => ?_)
    case hsmall => exact small_pos (by lia) (by lia) (by lia) (by lia) (by lia) (by lia) z2 (by lia)
    k_steps
    have hin := far_mem (f := p.1) (k := p.2) (x := (x : Int)) (b := (b : Int)) (beg := beg) (by lia) r2 (by lia) bg2 bg3
    refine Stop.go ⟨rfl, [(F, W.listOf (List.toArray (vs ++ items)) nn'), (163, tabObj ps')], G12, _, _, _, _, rfl, S12, ?_, ⟨ps', vs ++ items, nn', _, rfl, ?_, d1, d2, d3, IntsAre.append a6 hit, ?_, fun y => ?_⟩, bare⟩
    · exact g7.trans (g8.trans (g9.trans (g11.trans g12)))
    · exact a8'.keeps (g9.trans (g11.trans g12))
    · rw [List.length_append, List.length_map, List.length_range]; lia
    · rw [List.mem_append, a8, hin y, List.take_add_one, hp]
      simp only [Option.toList_some, List.mem_append, List.mem_singleton]
      constructor
      · rintro (⟨q1, q2, p', q3, q4⟩ | ⟨q1, q2, q3⟩)
        · exact ⟨q1, q2, p', .inl q3, q4⟩
        · exact ⟨q1, q2, p, .inr rfl, q3⟩
      · rintro ⟨q1, q2, p', q3 | rfl, q4⟩
        · exact .inl ⟨q1, q2, p', q3, q4⟩
        · exact .inr ⟨q1, q2, q4⟩
  · obtain ⟨pt, vs, nn, ns, rfl, a2, a3, a4, a5, a6, a7, a8⟩ := J
    rw [List.take_length] at a8
    dsimp only
    k_steps
    refine Stop.go ?_
    have hsub : ∀ q o, q ≠ 163 → s.heap.get? q = some o → h.get? q = some o := fun q o z e => S6.kb _ _ (hG0 q o z e)
    have hps5 := hR.1
    refine set_list rfl (DL.lst ⟨nn, (S6.s.oth (F, _) (.head _)).2⟩) a6 (by show _ < 4096; lia) fun h7 tk7 hS k7 => ?_
    k_steps
    refine Stop.go ?_
    have hnd := dd_nodup ns [] List.nodup_nil
    have hmem : ∀ y, y ∈ ns.foldl ddStep [] ↔ y ∈ ns := fun y => by rw [dd_mem]; simp
    have hlen := nodup_len (x := (x : Int)) b (ns.foldl ddStep []) hnd fun y hy => let z := (a8 y).mp ((hmem y).mp hy); ⟨z.1, z.2.1⟩
    refine sorted_set rfl hS (by lia) fun D vs' ns' h8 d tk8 nn' hD hI hp hle hDn k8 => ?_
    refine hq D vs' ns' h8 d _ gs ⟨nn', hD⟩ hI ?_ (fun y => by rw [hp.mem_iff, hmem, a8]) ?_ (fun q o z e => k8 _ _ (k7 _ _ (hsub q o z e))) ⟨pt, k8 _ _ (k7 163 _ (S6.s.oth (163, _) (.tail _ (.head _))).2)⟩ bare
    · have hnd' : ns'.Nodup := hp.nodup_iff.mpr hnd
      exact (List.Pairwise.and hle hnd').imp fun {u v} q => by have := q.1; have := q.2; lia
    · cases q : s.heap.get? D with
      | none => rfl
      | some o =>
        dsimp only at hDn
        by_cases z : D = 163
        · rw [z, k7 163 _ (S6.s.oth (163, _) (.tail _ (.head _))).2] at hDn; cases hDn
        · rw [k7 _ _ (hsub D o z q)] at hDn; cases hDn
theorem all : Stmt c.1 c.2.1 c.2.2.1 c.2.2.2.1 c.2.2.2.2.1 c.2.2.2.2.2.1 c.2.2.2.2.2.2.1 c.2.2.2.2.2.2.2.1 c.2.2.2.2.2.2.2.2.1 c.2.2.2.2.2.2.2.2.2.1 c.2.2.2.2.2.2.2.2.2.2.1 c.2.2.2.2.2.2.2.2.2.2.2.1 c.2.2.2.2.2.2.2.2.2.2.2.2.1 c.2.2.2.2.2.2.2.2.2.2.2.2.2.1 c.2.2.2.2.2.2.2.2.2.2.2.2.2.2.1 c.2.2.2.2.2.2.2.2.2.2.2.2.2.2.2.1 c.2.2.2.2.2.2.2.2.2.2.2.2.2.2.2.2.1 c.2.2.2.2.2.2.2.2.2.2.2.2.2.2.2.2.2.1 c.2.2.2.2.2.2.2.2.2.2.2.2.2.2.2.2.2.2.1 c.2.2.2.2.2.2.2.2.2.2.2.2.2.2.2.2.2.2.2.1 c.2.2.2.2.2.2.2.2.2.2.2.2.2.2.2.2.2.2.2.2 := by
  have h := spec_c
  unfold w dA fA gA uA s p loose mean mg mb g Q E a rs ps x b tx tb at h
  exact h
end Fa
theorem far_spec {w : World} {A : Around} {s : Shared} {p : Program} {loose : List Str} {mean : ExcName → Option Value} {mg mb : Str → Option Value} {g : Heap}
    {Q E : Value → Shared → Prop} {a : Addr} {rs : List Value} {ps : List (Int × Int)} {x b : Nat} {tx tb : Tok}
    (X : (hd.heap_1 w.params).In g) (T : Top p loose mean mg mb g) (hk : Sub g s.heap) (C : CodeHd g 167 163) (hgt : g.get? 163 = none) (ht : s.heap.get? 163 = some (tabObj #[]))
    (hh : A.handled = none) (hroom : A.depth + 25 < recursionLimit) (hl : DL s.heap a rs) (hP : PairsAre s.heap rs ps) (hR : RFin ps) (hx : x ≤ 250) (hb : b ≤ 32)
    (hq : ∀ D vs ns h' d tk gs, DL h' D vs → IntsAre vs ns → ns.Pairwise (· < ·) → (∀ y : Int, y ∈ ns ↔ (x : Int) < y ∧ y ≤ x + b ∧ ∃ p ∈ ps, p.2 ∣ y - p.1) → s.heap.get? D = none → (∀ q o, q ≠ 163 → s.heap.get? q = some o → h'.get? q = some o) → (∃ pt, h'.get? 163 = some (tabObj pt)) → (AllBare s.gens → AllBare gs) →
      Q (.ref D) { s with heap := h', drawn := d, toks := tk, gens := gs }) :
    wpAny (model PG w) A (call (.ref 168) [.ref a, .int (x : Int) tx, .int (b : Int) tb]) Q E s := by
  obtain ⟨hA, dA, fA, gA, uA⟩ := A
  dsimp only at hh
  subst hh
  exact of_pick Fa.ne (fun v => Fa.Stmt v.1 v.2.1 v.2.2.1 v.2.2.2.1 v.2.2.2.2.1 v.2.2.2.2.2.1 v.2.2.2.2.2.2.1 v.2.2.2.2.2.2.2.1 v.2.2.2.2.2.2.2.2.1 v.2.2.2.2.2.2.2.2.2.1 v.2.2.2.2.2.2.2.2.2.2.1 v.2.2.2.2.2.2.2.2.2.2.2.1 v.2.2.2.2.2.2.2.2.2.2.2.2.1 v.2.2.2.2.2.2.2.2.2.2.2.2.2.1 v.2.2.2.2.2.2.2.2.2.2.2.2.2.2.1 v.2.2.2.2.2.2.2.2.2.2.2.2.2.2.2.1 v.2.2.2.2.2.2.2.2.2.2.2.2.2.2.2.2.1 v.2.2.2.2.2.2.2.2.2.2.2.2.2.2.2.2.2.1 v.2.2.2.2.2.2.2.2.2.2.2.2.2.2.2.2.2.2.1 v.2.2.2.2.2.2.2.2.2.2.2.2.2.2.2.2.2.2.2.1 v.2.2.2.2.2.2.2.2.2.2.2.2.2.2.2.2.2.2.2.2) Fa.all (w, dA, fA, gA, uA, s, p, loose, mean, mg, mb, g, Q, E, a, rs, ps, x, b, tx, tb) X T hk C hgt ht hroom hl hP hR hx hb hq
end RS
end PartU2

section PartUI
open PySem PySem.W PyProof.Rows PySem.Calls
set_option Elab.async false
set_option maxRecDepth 100000
namespace RS
theorem fn_same {K : Frag} {a : Addr} {oc od osl oc' od' osl'} {name qual : Str} {params : Arguments} {body : List Stmt} {scope : Scope} {dV kV doc pm cdv ct : Value} {an : Option Addr} {name' qual' : Str} {params' : Arguments} {body' : List Stmt} {scope' : Scope} {dV' kV' doc' pm' cdv' ct' : Value} {an' : Option Addr} {C : Prop}
    (h : K.lookup a = some ⟨oc, od, .func (fnX name qual params body scope [] dV kV doc pm an cdv ct), osl⟩) (h' : K.lookup a = some ⟨oc', od', .func (fnX name' qual' params' body' scope' [] dV' kV' doc' pm' an' cdv' ct'), osl'⟩)
    (k : body = body' → scope = scope' → C) : C := by
  rw [h] at h'
  have e := Option.some.inj h'
  have e2 : fnX name qual params body scope [] dV kV doc pm an cdv ct = fnX name' qual' params' body' scope' [] dV' kV' doc' pm' an' cdv' ct' := by
    injection e with _ _ e3 _
    injection e3
  refine k ?_ ?_
  · exact FuncBody.stmts.inj (congrArg FuncData.body e2)
  · exact congrArg FuncData.scope e2
/-- the function object of law -/
inductive LawFn (K : Frag) (body : List Stmt) (scope : Scope) : Prop
  | mk (oc : Value) (od : Option Addr) (osl : Array (Option Value)) (name qual : Str) (params : Arguments) (dV kV doc pm cdv ct : Value) (an : Option Addr) (hfn : K.lookup 173 = some ⟨oc, od, .func (fnX name qual params body scope [] dV kV doc pm an cdv ct), osl⟩)
theorem law_of {K : Frag} {body : List Stmt} {scope : Scope} {C : Prop} (h : LawFn K body scope) (k : LawFn K body scope → C) : C := k h
abbrev lawEnv (scope : Scope) (n : Nat) : Env := envOfC "law" scope n 173 (.ref 172)
end RS
end PartUI

theorem RS.forgetU1 {prog : PySem.Program} {w : PySem.World} {A : PySem.Around} {env : PySem.Env} {Q : PySem.Flow → PySem.Shared → Prop} {E : PySem.Value → PySem.Shared → Prop} {s : PySem.Shared}
    (h : PySem.wpAny (PySem.model prog w) A (PySem.execs [] env) Q E s) : PySem.wpAny (PySem.model prog w) A (PySem.execs [] env) Q E s := by
  first | (walk1; fail "no") | skip
  w_top off
  exact h

section PartU1
open PySem PySem.W PyProof.Rows PySem.Calls
set_option Elab.async false
set_option maxRecDepth 100000
namespace RS
theorem fillU1 : (fun (_ : Params → Frag) (_ : OpenLaw) => True) hd.heap_1 PySem.Challenge.rw_rs0192_01 := by
  k_fill
  trivial
local macro_rules | `(tactic| walk_at $k:str) => if ["exec Assign cons ListComp", "exec For", "call ref", "call type:range", "storeName", "eval ListComp", "pyIter ref", "subscriptTail", "assign Tuple", "compareOp NotEq ref ref", "binaryOp Add ref ref", "Post"].contains k.getString then `(tactic| (refine Stop.of ?_)) else Lean.Macro.throwUnsupported
local macro_rules | `(tactic| walk_at "binaryOp FloorDiv int int") => `(tactic| (k_here; refine fdivS (by omega) (by omega) (by omega) (by omega) ?_))
local macro_rules | `(tactic| walk_at "binaryOp Mod int int") => `(tactic| (k_here; refine fmodS (by omega) ?_))
local macro_rules | `(tactic| walk_at "newTuple") => `(tactic| (k_here; first
  | (refine Fm.tup (by with_reducible assumption) ?_; intro D' G' h' S' g' T' e')
  | (refine Vw.tup (by with_reducible assumption) (by with_reducible assumption) ?_; intro D' h' V' B' k' T' e')))
local macro_rules | `(tactic| walk_at "newList") => `(tactic| (k_here; (refine Fm.lst (by with_reducible assumption) ?_; intro D' G' h' S' g' T' e')))
local macro_rules | `(tactic| walk_at "call builtin:len") => `(tactic| (k_here; refine Fm.len (by with_reducible assumption) (by with_reducible assumption) (by omega) ?_; intro t' tk'))
/-- what stands between the turns -/
inductive RulJ (n sft bnd : Nat) (tn ts tb : Tok) (D : Addr) (ys : List Value) (xs : List (Addr × Obj)) (G : Heap) (m : Str → Option Value) : Prop
  | mk (a1 : xs = []) (a2 : m "number" = some (.int (n : Int) tn)) (a3 : m "shift" = some (.int (sft : Int) ts)) (a4 : m "bend" = some (.int (bnd : Int) tb)) (a5 : m "digits" = some (.ref D)) (ad : DL G D ys) (R : Addr) (rs : List Value) (ps : List (Int × Int)) (a6 : m "rulers" = some (.ref R)) (a7 : DL G R rs) (a8 : PairsAre G rs ps) (a9 : RInv ps)
namespace Ru
abbrev V : Type := (World) × (Nat) × (Option (List Env)) × (Option (List Code)) × (Nat) × (Shared) × (Program) × (List Str) × (ExcName → Option Value) × (Str → Option Value) × (Str → Option Value) × (Heap) × (Value → Shared → Prop) × (Value → Shared → Prop) × (Nat) × (Nat) × (Nat) × (Tok) × (Tok) × (Tok)
def Stmt (w : World) (dA : Nat) (fA : Option (List Env)) (gA : Option (List Code)) (uA : Nat) (s : Shared) (p : Program) (loose : List Str) (mean : ExcName → Option Value) (mg : Str → Option Value) (mb : Str → Option Value) (g : Heap) (Q : Value → Shared → Prop) (E : Value → Shared → Prop) (n : Nat) (sft : Nat) (bnd : Nat) (tn : Tok) (ts : Tok) (tb : Tok) : Prop := ∀ (X : (hd.heap_1 w.params).In g) (T : Top p loose mean mg mb g) (hk : Sub g s.heap) (hroom : dA + 20 < recursionLimit) (hu : uA + 200 < cLine) (hn : n < 2 ^ 30) (hs : sft < 2 ^ 30) (hbn : bnd < 2 ^ 30) (hq : ∀ D rs ps h' tk gs, DL h' D rs → PairsAre h' rs ps → RFin ps → s.heap.get? D = none → Sub s.heap h' → (AllBare s.gens → AllBare gs) → Q (.ref D) { s with heap := h', toks := tk, gens := gs }),
    wpAny (model PG w) (Around.mk none dA fA gA uA) (call (.ref 142) [.int (n : Int) tn, .int (sft : Int) ts, .int (bnd : Int) tb]) Q E s
theorem ne : Nonempty V := ⟨((Classical.choice neW), 0, none, none, 0, {}, default, [], (fun _ => none), (fun _ => none), (fun _ => none), {}, (fun _ _ => True), (fun _ _ => True), 0, 0, 0, 0, 0, 0)⟩
noncomputable def c : V := pick ne fun v => Stmt v.1 v.2.1 v.2.2.1 v.2.2.2.1 v.2.2.2.2.1 v.2.2.2.2.2.1 v.2.2.2.2.2.2.1 v.2.2.2.2.2.2.2.1 v.2.2.2.2.2.2.2.2.1 v.2.2.2.2.2.2.2.2.2.1 v.2.2.2.2.2.2.2.2.2.2.1 v.2.2.2.2.2.2.2.2.2.2.2.1 v.2.2.2.2.2.2.2.2.2.2.2.2.1 v.2.2.2.2.2.2.2.2.2.2.2.2.2.1 v.2.2.2.2.2.2.2.2.2.2.2.2.2.2.1 v.2.2.2.2.2.2.2.2.2.2.2.2.2.2.2.1 v.2.2.2.2.2.2.2.2.2.2.2.2.2.2.2.2.1 v.2.2.2.2.2.2.2.2.2.2.2.2.2.2.2.2.2.1 v.2.2.2.2.2.2.2.2.2.2.2.2.2.2.2.2.2.2.1 v.2.2.2.2.2.2.2.2.2.2.2.2.2.2.2.2.2.2.2
@[irreducible] noncomputable def w : World := c.1
@[irreducible] noncomputable def dA : Nat := c.2.1
@[irreducible] noncomputable def fA : Option (List Env) := c.2.2.1
@[irreducible] noncomputable def gA : Option (List Code) := c.2.2.2.1
@[irreducible] noncomputable def uA : Nat := c.2.2.2.2.1
@[irreducible] noncomputable def s : Shared := c.2.2.2.2.2.1
@[irreducible] noncomputable def p : Program := c.2.2.2.2.2.2.1
@[irreducible] noncomputable def loose : List Str := c.2.2.2.2.2.2.2.1
@[irreducible] noncomputable def mean : ExcName → Option Value := c.2.2.2.2.2.2.2.2.1
@[irreducible] noncomputable def mg : Str → Option Value := c.2.2.2.2.2.2.2.2.2.1
@[irreducible] noncomputable def mb : Str → Option Value := c.2.2.2.2.2.2.2.2.2.2.1
@[irreducible] noncomputable def g : Heap := c.2.2.2.2.2.2.2.2.2.2.2.1
@[irreducible] noncomputable def Q : Value → Shared → Prop := c.2.2.2.2.2.2.2.2.2.2.2.2.1
@[irreducible] noncomputable def E : Value → Shared → Prop := c.2.2.2.2.2.2.2.2.2.2.2.2.2.1
@[irreducible] noncomputable def n : Nat := c.2.2.2.2.2.2.2.2.2.2.2.2.2.2.1
@[irreducible] noncomputable def sft : Nat := c.2.2.2.2.2.2.2.2.2.2.2.2.2.2.2.1
@[irreducible] noncomputable def bnd : Nat := c.2.2.2.2.2.2.2.2.2.2.2.2.2.2.2.2.1
@[irreducible] noncomputable def tn : Tok := c.2.2.2.2.2.2.2.2.2.2.2.2.2.2.2.2.2.1
@[irreducible] noncomputable def ts : Tok := c.2.2.2.2.2.2.2.2.2.2.2.2.2.2.2.2.2.2.1
@[irreducible] noncomputable def tb : Tok := c.2.2.2.2.2.2.2.2.2.2.2.2.2.2.2.2.2.2.2
set_option maxHeartbeats 4000000 in
theorem spec_c : Stmt w dA fA gA uA s p loose mean mg mb g Q E n sft bnd tn ts tb := by
  intro X T hk hroom hu hn hs hbn hq
  refine wpAny_call ?_
  refine' enterV (K := hd.heap_1 w.params) [] (fun _ h => nomatch h) List.nodup_nil X T hk (binds := [("number", .int (n : Int) tn), ("shift", .int (sft : Int) ts), ("bend", .int (bnd : Int) tb)]) ?ho ?hcd ?hroom ?hb ?hkind ?hnd ?c1 ?c2 ?c3 ?_
  case ho => k_is
  case hcd => k_is
  case hroom => dsimp only; lia
  case hb => exact bindsTo_peek (X.keeps hk) (fun S => by kernel_rfl)
  case hkind => exact kindsX (by rfl)
  case hnd => decide +kernel
  case c1 => exact rfl
  case c2 => exact rfl
  case c3 => exact rfl
  intro h₁ tk₁ S0 k₀
  have hg0 : Sub g (hideAll s.heap (List.map (fun x : Addr × Obj => x.1) [])) := fun b o e => hideAll_get _ (hk b o e) (fun q => nomatch q)
  generalize hm0 : (fun y => List.lookup y [(Str.ofString "number", Value.int (n : Int) tn), ("shift", Value.int (sft : Int) ts), ("bend", Value.int (bnd : Int) tb)].reverse) = m0 at S0
  have n1 : m0 "number" = some (.int (n : Int) tn) := by rw [← hm0]; rfl
  have n2 : m0 "shift" = some (.int (sft : Int) ts) := by rw [← hm0]; rfl
  have n3 : m0 "bend" = some (.int (bnd : Int) tb) := by rw [← hm0]; rfl
  have X' := X.keeps hg0
  have T' := T.keeps hg0
  have hG0 : Sub s.heap (hideAll s.heap (List.map (fun x : Addr × Obj => x.1) [])) := fun b o e => hideAll_get _ e (fun q => nomatch q)
  generalize hideAll s.heap (List.map (fun x : Addr × Obj => x.1) []) = G0 at S0 X' T' hg0 hG0
  clear X T hg0
  have S1 : Fm G0 _ _ _ _ _ := ⟨S0, Sub.refl _⟩
  clear S0 hm0
  refine wpAny_execs_cons ?_
  refine FmA S1 rfl (cl := [("number", s.heap.objs.size + 1)]) rfl rfl (BlockOk.of (by decide +kernel) (List.forall_mem_cons.mpr ⟨⟨rfl, rfl⟩, fun _ h => nomatch h⟩)) rfl rfl rfl ?_
  refine LCc (n := 4) (B := BRange "turn" 0) ["turn"] (fun i => .int ((n : Int) / 3 / 10 ^ (0 + (i : Int)).toNat % 10)) S1.s.v (by decide) BRange.tg (List.forall_mem_cons.mpr ⟨.inl rfl, fun _ h => nomatch h⟩) (by decide) ?_ (fun C i s₃ bs hC hi hb k3 V3 bare => ?_) (fun D ys h' gs tk hc hD hDL k' V' bare0 => ⟨k', fun G2 h2 tk2 m2 S2 e2 f2 g2 new2 => ?_⟩)
  · k_steps
    refine Stop.go (call_range_1 ?_)
    exact src_range rfl (fun b o e => Heap.get?_push_of_some _ e) (by rw [Heap.size_push]; exact Nat.le_succ _) (IsRange.new _ _ _ _ _ _ _) (by decide) (by decide) _ _
  · obtain ⟨v, rfl, t, rfl⟩ := hb
    obtain ⟨M, V, e1, e2⟩ := V3
    have e1 : M "turn" = some (.int (0 + (i : Int)) t) := e1 _ (.head _)
    have e2 := (e2 "number" rfl).trans n1
    have hp1 : (0 : Int) < 10 ^ (0 + (i : Int)).toNat := Int.pow_pos (by decide)
    have hp2 : (10 : Int) ^ (0 + (i : Int)).toNat < 2 ^ 30 := by
      rcases (by lia : i = 0 ∨ i = 1 ∨ i = 2 ∨ i = 3) with rfl | rfl | rfl | rfl <;> decide
    have B : Bas G0 s₃.heap := S1.kb.trans k3
    refine wpAny_mono (Q := fun v s' => Stop (Post s₃ (fun y _ => Carried y (.int ((n : Int) / 3 / 10 ^ (0 + (i : Int)).toNat % 10))) v s')) ?_ (fun _ _ x => x) (fun _ _ x => x)
    k_steps
    exact Stop.go ⟨_, _, _, rfl, Grew.refl _, .int _ _⟩
  · dsimp only at hc hD k' bare0 S2 new2 ⊢
    have n1 := (f2 "number" (by decide)).trans n1
    have n2 := (f2 "shift" (by decide)).trans n2
    have n3 := (f2 "bend" (by decide)).trans n3
    have hDG : DL G2 D ys := hDL.at fun o e => new2 D o hD e
    have hI : IntsAre ys ((List.range 4).map fun i : Nat => ((n : Int) / 3 / 10 ^ (0 + (i : Int)).toNat % 10)) := ints_of_carried (by rw [List.map_map]; exact hc)
    have hds : ∀ d ∈ (List.range 4).map fun i : Nat => ((n : Int) / 3 / 10 ^ (0 + (i : Int)).toNat % 10), 0 ≤ d ∧ d < 10 := fun d hd => by
      obtain ⟨i, _, rfl⟩ := List.mem_map.mp hd
      exact ⟨Int.emod_nonneg _ (by decide), Int.emod_lt_of_pos _ (by decide)⟩
    have hdl : ((List.range 4).map fun i : Nat => ((n : Int) / 3 / 10 ^ (0 + (i : Int)).toNat % 10)).length = 4 := by simp
    generalize (List.range 4).map (fun i : Nat => ((n : Int) / 3 / 10 ^ (0 + (i : Int)).toNat % 10)) = ds at hI hds hdl
    clear f2 S1 hc hDL V' new2 hD k'
    k_steps
    refine Stop.go ?_
    rename Heap.IsTuple _ _ _ => T3
    rename DL _ _ [_] => L3
    rename Fm _ _ _ _ _ _ => S3
    rename Sub _ _ => g3
    rename Sub G2 _ => g4
    refine Fm.stL S3 rfl rfl rfl fun h5 tk5 m5 S5 e5 f5 => ?_
    have n1 := (f5 "number" (by decide)).trans n1
    have n2 := (f5 "shift" (by decide)).trans n2
    have n3 := (f5 "bend" (by decide)).trans n3
    have n4 := (f5 "digits" (by decide)).trans e2
    k_steps
    refine Stop.go ?_
    refine wpAny_For ?_
    k_steps
    refine Stop.go ?_
    refine Fm.forList rfl (fun _ xs G m => RulJ n sft bnd tn ts tb D ys xs G m)
      rfl S5 (hDG.at fun o e => g3 _ _ (g4 _ _ e)) ⟨rfl, n1, n2, n3, n4, hDG.at fun o e => g3 _ _ (g4 _ _ e), _, _, [(1, 1)], e5, L3, ?_, RInv.start⟩ (fun i xs G G' m J k => ?_) (.inl ⟨rfl, rfl⟩) (fun i its xs G h m M gs tk v hv J kG S6 c1 b2 bare => ?_) (fun xs G h m gs tk J kG S6 bare => ?_)
    · exact PairsAre.app (rs := []) (ps := []) ⟨rfl, fun i v e => by simp at e⟩ (p := (1, 1)) (T3.at fun o e => g3 _ _ e)
    · obtain ⟨a1, a2, a3, a4, a5, ad, R, rs, ps, a6, a7, a8, a9⟩ := J
      exact ⟨a1, a2, a3, a4, a5, ad.at fun o e => k _ _ e, R, rs, ps, a6, a7.at fun o e => k _ _ e, a8.keeps k, a9⟩
    · obtain ⟨rfl, a2, a3, a4, a5, ad, R, rs, ps, a6, a7, a8, a9⟩ := J
      obtain ⟨d, t, rfl, hd⟩ := ints_at hI hv
      obtain ⟨d0, d1⟩ := hds d (List.mem_of_getElem? hd)
      have c2 := (b2 "rulers" (by decide)).trans a6
      have hrl : rs.length = ps.length := a8.1
      have hp1 := a9.2.2.1
      have hp5 := a9.2.2.2
      clear S3 S5 T3 L3
      k_steps
      refine Stop.go ?_
      have hm1 := Int.emod_nonneg d (b := (rs.length : Int)) (by lia)
      have hm2 := Int.emod_lt_of_pos d (b := (rs.length : Int)) (by lia)
      obtain ⟨p, hp⟩ : ∃ p, ps[(d % (rs.length : Int)).toNat]? = some p := ⟨_, List.getElem?_eq_getElem (by lia)⟩
      obtain ⟨b, t1, u1, hb1, hb2⟩ := a8.get hp
      have hpm := List.mem_of_getElem? hp
      refine item_list (a7.lst.at fun o e => S6.s.sub _ _ e) hm1 (by lia) hb1 ?_
      k_steps
      refine Stop.go ?_
      refine Fm.unpack2 rfl rfl S6 (hb2.at fun o e => S6.s.sub _ _ e) (.inr ⟨rfl, _, rfl⟩) (.inr ⟨rfl, _, rfl⟩) (by decide) fun G7 h7 tk7 m7 S7 g7 q1 q2 q3 => ?_
      have q4 := (q3 "digit" (by decide) (by decide)).trans c1
      have q5 := (q3 "rulers" (by decide) (by decide)).trans c2
      have L7 : DL G7 R rs := a7.at fun o e => g7 _ _ e
      k_steps
      refine Stop.go ?_
      refine Fm.stC S7 rfl rfl rfl fun h8 tk8 m8 S8 e8 f8 => ?_
      dsimp only at e8 ⊢
      have q1 := (f8 "first" (by decide)).trans q1
      have q2 := (f8 "step" (by decide)).trans q2
      have q4 := (f8 "digit" (by decide)).trans q4
      have q5 := (f8 "rulers" (by decide)).trans q5
      have z1 := (f8 "number" (by decide)).trans ((q3 "number" (by decide) (by decide)).trans ((b2 "number" (by decide)).trans a2))
      have z2 := (f8 "shift" (by decide)).trans ((q3 "shift" (by decide) (by decide)).trans ((b2 "shift" (by decide)).trans a3))
      have z3 := (f8 "bend" (by decide)).trans ((q3 "bend" (by decide) (by decide)).trans ((b2 "bend" (by decide)).trans a4))
      have z4 := (f8 "digits" (by decide)).trans ((q3 "digits" (by decide) (by decide)).trans ((b2 "digits" (by decide)).trans a5))
      clear S6 S7
      k_steps
      · refine Stop.go ?_
        rename ((rs.length : Int) + (2 + d / 5) ≤ _) => hle
        have hq2 : (2 + d / 5 = 2 ∨ 2 + d / 5 = 3) := by lia
        have hdn : (2 + d / 5).toNat ≤ 3 := by lia
        have P8 : PairsAre h8 rs ps := (a8.keeps g7).keeps S8.s.sub
        refine LC (m := m8) rfl rfl (BlockOk.of (by decide +kernel) (List.forall_mem_cons.mpr ⟨⟨rfl, rfl⟩, List.forall_mem_cons.mpr ⟨⟨rfl, rfl⟩, fun _ h => nomatch h⟩⟩)) ?_
        refine LCq (ps := ps) (rs := rs) (fun q => decide ((q.1, q.2) ≠ (p.1, p.2))) S8.s.v (by rw [sizeLine_eq]; lia) (.inl rfl) P8 ?_ (fun C s₃ b q t u hC hT k3 V3 bare3 => ?_) (fun C s₃ b hC V3 => ?_) (fun D1 ys1 h9 gs9 tk9 hP1 hD1 hDL1 k9 V9 bare9 => ?_)
        · k_steps
          exact Stop.go (src_list rfl (Sub.refl _) (Nat.le_refl _) (L7.lst.at fun o e => S8.s.sub _ _ e) _ _)
        · obtain ⟨M3, V, e1, e2⟩ := V3
          have e1 : M3 "ruler" = some (.ref b) := e1 _ (.head _)
          have e3 := (e2 "first" rfl).trans q1
          have e4 := (e2 "step" rfl).trans q2
          have B : Bas G0 s₃.heap := S8.kb.trans k3
          refine wpAny_mono (Q := fun v s' => Stop (PostB s₃ (decide ((q.1, q.2) ≠ (p.1, p.2))) v s')) ?_ (fun _ _ x => x) (fun _ _ x => x)
          clear S8
          k_steps
          refine Stop.go ?_
          rename Heap.IsTuple _ _ #[Value.int p.1 t1, Value.int p.2 u1] => T9
          rename Sub s₃.heap _ => k9
          refine ne_pairs (hT.at fun o e => k9 _ _ e) T9 (by show uA + 3 + 64 < _; lia) ?_
          k_steps
          exact Stop.go ⟨rfl, _, _, _, rfl, k9, id⟩
        · obtain ⟨M3, V, e1, e2⟩ := V3
          have e1 : M3 "ruler" = some (.ref b) := e1 _ (.head _)
          refine wpAny_mono (Q := fun v s' => Stop (Post s₃ (fun y _ => y = .ref b) v s')) ?_ (fun _ _ x => x) (fun _ _ x => x)
          clear S8
          k_steps
          exact Stop.go ⟨_, _, _, rfl, Grew.refl _, rfl⟩
        · dsimp only at hD1 k9 bare9
          obtain ⟨G9, S9, g9, n9⟩ := S8.up k9
          have L9 : DL G9 D1 ys1 := hDL1.at fun o e => n9 _ _ hD1 e
          clear S8
          k_steps
          refine Stop.go ?_
          refine LC (m := m8) rfl rfl (BlockOk.of (by decide +kernel) (List.forall_mem_cons.mpr ⟨⟨rfl, rfl⟩, List.forall_mem_cons.mpr ⟨⟨rfl, rfl⟩, List.forall_mem_cons.mpr ⟨⟨rfl, rfl⟩, fun _ h => nomatch h⟩⟩⟩)) ?_
          refine LCp (n := (2 + d / 5).toNat) (B := BRange "part" 0) ["part"] (fun i => (p.1 + p.2 * (0 + (i : Int)), p.2 * (2 + d / 5))) S9.s.v (by rw [sizeLine_eq]; lia) BRange.tg (List.forall_mem_cons.mpr ⟨.inl rfl, fun _ h => nomatch h⟩) (by decide) ?_ (fun C i s₃ bs hC hi hb k3 V3 bare3 => ?_) (fun D2 ys2 h10 gs10 tk10 hP2 hD2 hDL2 k10 V10 bare10 => ?_)
          · k_steps
            refine Stop.go (call_range_1 ?_)
            refine src_range rfl (fun b o e => Heap.get?_push_of_some _ e) (by rw [Heap.size_push]; exact Nat.le_succ _) (IsRange.new _ _ _ _ _ _ _) (small_one (by lia) (by lia) (by lia) (by lia)) ?_ _ _
            rw [rangeSize_one]
            split <;> lia
          · obtain ⟨v, rfl, t, rfl⟩ := hb
            obtain ⟨M3, V, e1, e2⟩ := V3
            have e1 : M3 "part" = some (.int (0 + (i : Int)) t) := e1 _ (.head _)
            have e3 := (e2 "first" rfl).trans q1
            have e4 := (e2 "step" rfl).trans q2
            have e5 := (e2 "parts" rfl).trans e8
            have B : Bas G0 s₃.heap := S9.kb.trans k3
            refine wpAny_mono (Q := fun v s' => Stop (Post s₃ (fun y h' => ∃ b t u, y = .ref b ∧ s₃.heap.get? b = none ∧ h'.IsTuple b #[.int (p.1 + p.2 * (0 + (i : Int))) t, .int (p.2 * (2 + d / 5)) u]) v s')) ?_ (fun _ _ x => x) (fun _ _ x => x)
            clear S9
            k_steps
            rename Heap.IsTuple _ _ #[Value.int (p.1 + _) _, _] => T9
            rename Sub s₃.heap _ => k9
            exact Stop.go ⟨_, _, _, rfl, ⟨k9, id⟩, _, _, _, rfl, by assumption, T9⟩
          · dsimp only at hD2 k10 bare10
            obtain ⟨G11, S11, g11, n11⟩ := S9.up k10
            have S9' := S9
            clear S9
            k_steps
            refine Stop.go ?_
            have hfl : (ps.filter (fun q => decide ((q.1, q.2) ≠ (p.1, p.2)))).length ≤ ps.length := List.length_filter_le _ _
            refine addL (L9.lst.at fun o e => k10 _ _ (S9'.s.sub _ _ e)) hDL2.lst (fun D3 h12 k12 hD3 hDL3 => ?_) (by have h1 := (hP1 _ a8).1; have h2 := (hP2 _ fun _ _ _ e => e).1; rw [List.length_map, List.length_range] at h2; rw [sizeLine_eq]; lia)
            dsimp only at k12 hD3
            obtain ⟨G13, S13, g13, n13⟩ := S11.up k12
            have P1 := hP1 G13 ((((a8.keeps g7).keeps g9).keeps g11).keeps g13)
            have P2 := hP2 G13 fun b o e1 e2 => g13 _ _ (n11 b o e1 e2)
            have hrng : ps.filter (fun q => decide ((q.1, q.2) ≠ (p.1, p.2))) ++ splitOf p (2 + d / 5) = _ := rfl
            have hD1o : h8.get? D3 = none := by
              cases e : h8.get? D3 with
              | none => rfl
              | some o => have := k10 _ _ (k9 _ _ e); rw [hD3] at this; cases this
            refine Fm.stL S13 rfl rfl rfl fun h14 tk14 m14 S14 e14 f14 => ?_
            k_steps
            refine Stop.go ⟨rfl, [], G13, h14, m14, gs10, _, rfl, S14, ((g7.trans g9).trans g11).trans g13, ⟨rfl, (f14 _ (by decide)).trans z1, (f14 _ (by decide)).trans z2, (f14 _ (by decide)).trans z3, (f14 _ (by decide)).trans z4, ad.at fun o e => g13 _ _ (g11 _ _ (g9 _ _ (g7 _ _ e))), D3, _, _, e14, hDL3.at fun o e => n13 _ _ hD3 e, P1.append P2, RInv.split a9 hpm hq2 (by lia)⟩, fun z => bare10 (bare9 (bare z))⟩
      · refine Stop.go ⟨rfl, [], G7, h8, m8, gs, _, rfl, S8, g7, ⟨rfl, z1, z2, z3, z4, ad.at fun o e => g7 _ _ e, R, rs, ps, q5, L7, a8.keeps g7, a9⟩, bare⟩
    · obtain ⟨rfl, a2, a3, a4, a5, ad, R, rs, ps, a6, a7, a8, a9⟩ := J
      clear S5 S3 T3 L3
      dsimp only at bare ⊢
      have hyl : ys.length = 4 := by rw [hI.length, hdl]
      have hgd : ∀ i, 0 ≤ ds.getD i 0 ∧ ds.getD i 0 < 10 := fun i => by
        rw [List.getD_eq_getElem?_getD]
        cases e : ds[i]? with
        | none => exact ⟨Int.le_refl _, by decide⟩
        | some d => exact hds d (List.mem_of_getElem? e)
      refine wpAny_execs_cons ?_
      refine FmA S6 rfl rfl rfl (BlockOk.of (by decide +kernel) (fun _ h => nomatch h)) rfl rfl rfl ?_
      refine LCp (n := ys.length) (B := BList "digit" ys) ["digit"] (fun i => (1 + ds.getD i 0 / 3 % (2 + ds.getD i 0 % 3), 2 + ds.getD i 0 % 3)) S6.s.v (by rw [hyl]; decide) BList.tg (List.forall_mem_cons.mpr ⟨.inl rfl, fun _ h => nomatch h⟩) (by decide) ?_ (fun C i s₃ bs hC hi hb k3 V3 bare3 => ?_) (fun D7 rs7 h7 gs7 tk7 hP7 hD7 hDL7 k7 V7 bare7 => ⟨k7, fun G8 h8 tk8 m8 S8 e8 f8 g8 new8 => ?_⟩)
      · k_steps
        exact Stop.go (src_list rfl (Sub.refl _) (Nat.le_refl _) (ad.lst.at fun o e => S6.s.sub _ _ e) _ _)
      · obtain ⟨v, rfl, hv⟩ := hb
        obtain ⟨d, t, rfl, hd⟩ := ints_at hI hv
        obtain ⟨M3, V, e1, e2⟩ := V3
        have e1 : M3 "digit" = some (.int d t) := e1 _ (.head _)
        have hgi : ds.getD i 0 = d := by rw [List.getD_eq_getElem?_getD, hd]; rfl
        obtain ⟨d0, d1⟩ := hds d (List.mem_of_getElem? hd)
        rw [hgi]
        have B : Bas G0 s₃.heap := S6.kb.trans k3
        refine wpAny_mono (Q := fun v s' => Stop (Post s₃ (fun y h' => ∃ b t u, y = .ref b ∧ s₃.heap.get? b = none ∧ h'.IsTuple b #[.int (1 + d / 3 % (2 + d % 3)) t, .int (2 + d % 3) u]) v s')) ?_ (fun _ _ x => x) (fun _ _ x => x)
        clear S6
        k_steps
        rename Heap.IsTuple _ _ #[Value.int (1 + _) _, _] => T9
        rename Sub s₃.heap _ => k9
        exact Stop.go ⟨_, _, _, rfl, ⟨k9, id⟩, _, _, _, rfl, by assumption, T9⟩
      · dsimp only at hP7 hD7 bare7 new8 ⊢
        have P7 := hP7 G8 new8
        rw [hyl] at P7
        have R7 := ROk.drawn (fun i => ds.getD i 0) (fun i => (hgd i).1)
        have L7 : DL G8 D7 rs7 := hDL7.at fun o e => new8 _ _ hD7 e
        have z1 := (f8 "number" (by decide)).trans a2
        have z2 := (f8 "shift" (by decide)).trans a3
        have z3 := (f8 "bend" (by decide)).trans a4
        have z5 := (f8 "rulers" (by decide)).trans a6
        have L8 : DL G8 R rs := a7.at fun o e => g8 _ _ e
        have P8 : PairsAre G8 rs ps := a8.keeps g8
        have R8 := a9.ok
        generalize (List.range 4).map (fun i => (1 + ds.getD i 0 / 3 % (2 + ds.getD i 0 % 3), 2 + ds.getD i 0 % 3)) = ps7 at P7 R7
        clear S6 f8 hP7 hDL7 V7 new8 ad a7 a8 a9 hI hds hgd hDG
        k_steps
        refine Stop.go ?_
        rename_i Da Ga ha Sa ga Ta ea Db Gb hb Sb gb Tb eb Dc Gc hc Sc gc Tc ec Dd Gd hd' Sd gd Td ed De Ge he Se ge Te ee Df Gf hf Sf gf Tf ef Dg Gg hg Sg gg Tg eg
        have P1 : PairsAre Gg [.ref Da, .ref Db, .ref Dc, .ref Dd, .ref De] [(2, 2), (3, 3), (1, 4), (5, 6), (7, 12)] :=
          .cons (Ta.at fun o e => gg _ _ (gf _ _ (ge _ _ (gd _ _ (gc _ _ (gb _ _ e)))))) (.cons (Tb.at fun o e => gg _ _ (gf _ _ (ge _ _ (gd _ _ (gc _ _ e))))) (.cons (Tc.at fun o e => gg _ _ (gf _ _ (ge _ _ (gd _ _ e))))
            (.cons (Td.at fun o e => gg _ _ (gf _ _ (ge _ _ e))) (.cons (Te.at fun o e => gg _ _ (gf _ _ e)) .nil))))
        have k8 : Sub G8 Gg := ga.trans (gb.trans (gc.trans (gd.trans (ge.trans (gf.trans gg)))))
        obtain ⟨R2, rs2, ps2, hx, L2, P2, RR⟩ : ∃ R2 rs2 ps2, [Value.ref Df, .ref R, .ref D7][((n : Int) % 3).toNat]? = some (.ref R2) ∧ DL Gg R2 rs2 ∧ PairsAre Gg rs2 ps2 ∧ ROk 30 ps2 := by
          rcases (by lia : (n : Int) % 3 = 0 ∨ (n : Int) % 3 = 1 ∨ (n : Int) % 3 = 2) with e | e | e <;> rw [e]
          · exact ⟨_, _, _, rfl, Tf.at fun o e => gg _ _ e, P1, by decide, by decide, by decide⟩
          · exact ⟨_, _, _, rfl, L8.at fun o e => k8 _ _ e, P8.keeps k8, R8⟩
          · exact ⟨_, _, _, rfl, L7.at fun o e => k8 _ _ e, P7.keeps k8, R7⟩
        refine item_list (Tg.lst.at fun o e => Sg.s.sub _ _ e) (by lia) (by lia) hx ?_
        clear Sa Sb Sc Sd Se Sf Ta Tb Tc Td Te Tf Tg ea eb ec ed ee ef eg L7 L8 P7 P8 S8 P1
        k_steps
        refine Stop.go ?_
        refine Fm.stL Sg rfl rfl rfl fun h9 tk9 m9 S9 e9 f9 => ?_
        have z1 := (f9 "number" (by decide)).trans z1
        have z2 := (f9 "shift" (by decide)).trans z2
        have z3 := (f9 "bend" (by decide)).trans z3
        clear Sg f9 z5 e8
        dsimp only
        refine wpAny_execs_cons ?_
        refine FmA S9 rfl rfl rfl (BlockOk.of (by decide +kernel) (List.forall_mem_cons.mpr ⟨⟨rfl, rfl⟩, fun _ h => nomatch h⟩)) rfl rfl rfl ?_
        refine LCp (n := ps2.length) (B := BPairs "first" "step" ps2) ["first", "step"] (fun i => (((ps2.getD i (0, 0)).1 - 1 + (sft : Int)) % (ps2.getD i (0, 0)).2 + 1, (ps2.getD i (0, 0)).2)) S9.s.v (by have := RR.2.1; rw [sizeLine_eq]; lia) BPairs.tg (List.forall_mem_cons.mpr ⟨.inl rfl, List.forall_mem_cons.mpr ⟨.inl rfl, fun _ h => nomatch h⟩⟩) (by decide) ?_ (fun C i s₃ bs hC hi hb k3 V3 bare3 => ?_) (fun D10 rs10 h10 gs10 tk10 hP10 hD10 hDL10 k10 V10 bare10 => ⟨k10, fun G11 h11 tk11 m11 S11 e11 f11 g11 new11 => ?_⟩)
        · k_steps
          exact Stop.go (src_pairs rfl (Sub.refl _) (Nat.le_refl _) (L2.lst.at fun o e => S9.s.sub _ _ e) (P2.keeps S9.s.sub) _ _ _ _ _ _)
        · obtain ⟨_, _, rfl, p, t, u, hp, rfl, rfl⟩ := hb
          obtain ⟨M3, V, e1, e2⟩ := V3
          have e3 : M3 "first" = some (.int p.1 t) := e1 _ (.head _)
          have e4 : M3 "step" = some (.int p.2 u) := e1 _ (.tail _ (.head _))
          have e5 := (e2 "shift" rfl).trans z2
          have hgi : ps2.getD i (0, 0) = p := by rw [List.getD_eq_getElem?_getD, hp]; rfl
          rw [hgi]
          obtain ⟨q1, q2, q3⟩ := RR.2.2 p (List.mem_of_getElem? hp)
          have B : Bas G0 s₃.heap := S9.kb.trans k3
          refine wpAny_mono (Q := fun v s' => Stop (Post s₃ (fun y h' => ∃ b t u, y = .ref b ∧ s₃.heap.get? b = none ∧ h'.IsTuple b #[.int ((p.1 - 1 + (sft : Int)) % p.2 + 1) t, .int p.2 u]) v s')) ?_ (fun _ _ x => x) (fun _ _ x => x)
          clear S9
          k_steps
          rename Heap.IsTuple _ _ #[Value.int (_ + 1) _, _] => T9
          rename Sub s₃.heap _ => k9
          exact Stop.go ⟨_, _, _, rfl, ⟨k9, id⟩, _, _, _, rfl, by assumption, T9⟩
        · dsimp only at hP10 hD10 bare10 new11 ⊢
          have P11 := hP10 G11 new11
          have L11 : DL G11 D10 rs10 := hDL10.at fun o e => new11 _ _ hD10 e
          have R11 := RR.shift (sft : Int) (fun i => (((ps2.getD i (0, 0)).1 - 1 + (sft : Int)) % (ps2.getD i (0, 0)).2 + 1, (ps2.getD i (0, 0)).2)) (fun i p hp => by rw [show ps2.getD i (0, 0) = p by rw [List.getD_eq_getElem?_getD, hp]; rfl])
          have z3 := (f11 "bend" (by decide)).trans z3
          generalize (List.range ps2.length).map (fun i => (((ps2.getD i (0, 0)).1 - 1 + (sft : Int)) % (ps2.getD i (0, 0)).2 + 1, (ps2.getD i (0, 0)).2)) = ps3 at P11 R11
          clear S9 f11 hP10 hDL10 V10 new11 P2 L2 hx RR e9
          have hrl : rs10.length = ps3.length := P11.1
          have hr1 := R11.1
          have hr2 := R11.2.1
          k_steps
          refine Stop.go ?_
          refine Fm.stL S11 rfl rfl rfl fun h12 tk12 m12 S12 e12 f12 => ?_
          dsimp only at e12 ⊢
          have e11 := (f12 "rulers" (by decide)).trans e11
          have z3 := (f12 "bend" (by decide)).trans z3
          k_steps
          refine Stop.go ?_
          have hm1 := Int.emod_nonneg ((bnd : Int) / 4) (b := (rs10.length : Int)) (by lia)
          have hm2 := Int.emod_lt_of_pos ((bnd : Int) / 4) (b := (rs10.length : Int)) (by lia)
          generalize hwq : (bnd : Int) / 4 % (rs10.length : Int) = wq at *
          obtain ⟨wn, rfl⟩ := Int.eq_ofNat_of_zero_le hm1
          obtain ⟨p, hp⟩ : ∃ p, ps3[wn]? = some p := ⟨_, List.getElem?_eq_getElem (by lia)⟩
          obtain ⟨b, t1, u1, hb1, hb2⟩ := P11.get hp
          obtain ⟨r1, r2, r3⟩ := R11.2.2 p (List.mem_of_getElem? hp)
          refine item_list (L11.lst.at fun o e => S12.s.sub _ _ e) hm1 (by lia) (by simpa using hb1) ?_
          k_steps
          refine Stop.go ?_
          refine Fm.unpack2 rfl rfl S12 (hb2.at fun o e => S12.s.sub _ _ e) (.inr ⟨rfl, _, rfl⟩) (.inr ⟨rfl, _, rfl⟩) (by decide) fun G13 h13 tk13 m13 S13 g13 q1 q2 q3 => ?_
          have e11 := (q3 "rulers" (by decide) (by decide)).trans e11
          have z3 := (q3 "bend" (by decide) (by decide)).trans z3
          have e12 := (q3 "which" (by decide) (by decide)).trans e12
          clear S12 q3 f12
          dsimp only
          k_steps
          refine Stop.go ?_
          refine Fm.stL S13 rfl rfl rfl fun h14 tk14 m14 S14 e14 f14 => ?_
          have q1 := (f14 "first" (by decide)).trans q1
          have q2 := (f14 "step" (by decide)).trans q2
          have e11 := (f14 "rulers" (by decide)).trans e11
          have z3 := (f14 "bend" (by decide)).trans z3
          have e12 := (f14 "which" (by decide)).trans e12
          clear S13 f14
          dsimp only at e14 ⊢
          k_steps
          refine Stop.go ?_
          rename_i Da Ga ha Sa ga Ta ea Db Gb hb Sb gb Tb eb Dc Gc hc Sc gc Tc ec Dd Gd hd' Sd gd Td ed De Ge he Se ge Te ee Df Gf hf Sf gf Tf ef Dg Gg hg Sg gg Tg eg Dh Gh hh Sh gh Th eh
          obtain ⟨B, bs, qs, hx, LB, PB, hqs1, hqs2⟩ : ∃ B bs qs, [Value.ref Db, .ref Dc, .ref De, .ref Dg][((bnd : Int) % 4).toNat]? = some (.ref B) ∧ DL Gh B bs ∧ PairsAre Gh bs qs ∧ qs.length ≤ 1 ∧ ∀ p ∈ qs, 1 ≤ p.1 ∧ p.1 ≤ p.2 ∧ p.2 ≤ 60 := by
            rcases (by lia : (bnd : Int) % 4 = 0 ∨ (bnd : Int) % 4 = 1 ∨ (bnd : Int) % 4 = 2 ∨ (bnd : Int) % 4 = 3) with e | e | e | e <;> rw [e]
            · exact ⟨_, _, [(p.1, p.2)], rfl, Tb.at fun o e => gh _ _ (gg _ _ (gf _ _ (ge _ _ (gd _ _ (gc _ _ e))))), .cons (Ta.at fun o e => gh _ _ (gg _ _ (gf _ _ (ge _ _ (gd _ _ (gc _ _ (gb _ _ e))))))) .nil, by simp, List.forall_mem_cons.mpr ⟨⟨r1, r2, by dsimp only; lia⟩, fun _ h => nomatch h⟩⟩
            · exact ⟨_, _, [], rfl, Tc.at fun o e => gh _ _ (gg _ _ (gf _ _ (ge _ _ (gd _ _ e)))), .nil, by simp, fun _ h => nomatch h⟩
            · have w1 := Int.emod_nonneg ((bnd : Int) / 1200) (b := 1 + (bnd : Int) / 20 % 60) (by lia)
              have w2 := Int.emod_lt_of_pos ((bnd : Int) / 1200) (b := 1 + (bnd : Int) / 20 % 60) (by lia)
              exact ⟨_, _, [(_, _)], rfl, Te.at fun o e => gh _ _ (gg _ _ (gf _ _ e)), .cons (Td.at fun o e => gh _ _ (gg _ _ (gf _ _ (ge _ _ e)))) .nil, by simp, List.forall_mem_cons.mpr ⟨⟨by dsimp only; lia, by dsimp only; lia, by dsimp only; lia⟩, fun _ h => nomatch h⟩⟩
            · exact ⟨_, _, [(_, _)], rfl, Tg.at fun o e => gh _ _ e, .cons (Tf.at fun o e => gh _ _ (gg _ _ e)) .nil, by simp, List.forall_mem_cons.mpr ⟨⟨by dsimp only; lia, by dsimp only; lia, by dsimp only; lia⟩, fun _ h => nomatch h⟩⟩
          have k14 : Sub G11 Gh := g13.trans (ga.trans (gb.trans (gc.trans (gd.trans (ge.trans (gf.trans (gg.trans gh)))))))
          refine item_list (Th.lst.at fun o e => Sh.s.sub _ _ e) (by lia) (by lia) hx ?_
          clear Sa Sb Sc Sd Se Sf Sg Ta Tb Tc Td Te Tf Tg Th ea eb ec ed ee ef eg eh S14 hx
          k_steps
          refine Stop.go ?_
          refine Fm.stL Sh rfl rfl rfl fun h15 tk15 m15 S15 e15 f15 => ?_
          have e11 := (f15 "rulers" (by decide)).trans e11
          have e12 := (f15 "which" (by decide)).trans e12
          have L15 : DL Gh D10 rs10 := L11.at fun o e => k14 _ _ e
          have P15 := P11.keeps k14
          clear Sh f15
          dsimp only at e15 ⊢
          k_steps
          refine Stop.go (sliceL (L15.lst.at fun o e => S15.s.sub _ _ e) .none (.int _ _) (fun D16 h16 k16 hD16 L16 => ?_) (by rw [sizeLine_eq]; lia))
          dsimp only at k16 hD16 ⊢
          rw [slicePick_upto'] at L16
          simp only [List.toList_toArray] at L16
          obtain ⟨G16, S16, g16, n16⟩ := S15.up k16
          have M16 : DL G16 D16 (rs10.take wn) := L16.at fun o e => n16 _ _ hD16 e
          clear S15
          k_steps
          refine Stop.go (addL (M16.lst.at fun o e => S16.s.sub _ _ e) (LB.lst.at fun o e => S16.s.sub _ _ (g16 _ _ e)) (fun D17 h17 k17 hD17 L17 => ?_) (by have := PB.1; rw [List.length_take, sizeLine_eq]; lia))
          dsimp only at k17 hD17 ⊢
          obtain ⟨G17, S17, g17, n17⟩ := S16.up k17
          have M17 : DL G17 D17 (rs10.take wn ++ bs) := L17.at fun o e => n17 _ _ hD17 e
          clear S16
          k_steps
          refine Stop.go (sliceL ((L15.at fun o e => g17 _ _ (g16 _ _ e)).lst.at fun o e => S17.s.sub _ _ e) (.int _ _) .none (fun D18 h18 k18 hD18 L18 => ?_) (by rw [sizeLine_eq]; lia))
          dsimp only at k18 hD18 ⊢
          rw [show (wn : Int) + 1 = ((wn + 1 : Nat) : Int) from rfl, slicePick_from'] at L18
          simp only [List.toList_toArray] at L18
          obtain ⟨G18, S18, g18, n18⟩ := S17.up k18
          have M18 : DL G18 D18 (rs10.drop (wn + 1)) := L18.at fun o e => n18 _ _ hD18 e
          clear S17
          k_steps
          refine Stop.go (addL ((M17.at fun o e => g18 _ _ e).lst.at fun o e => S18.s.sub _ _ e) (M18.lst.at fun o e => S18.s.sub _ _ e) (fun D19 h19 k19 hD19 L19 => ?_) (by have := PB.1; rw [List.length_append, List.length_take, List.length_drop, sizeLine_eq]; lia))
          dsimp only at k19 hD19 ⊢
          have hs0 : Sub s.heap h18 := hG0.trans S18.kb
          have P19 : PairsAre h19 (rs10.take wn ++ bs ++ rs10.drop (wn + 1)) (ps3.take wn ++ qs ++ ps3.drop (wn + 1)) :=
            (((((P15.take wn).append PB).append (P15.drop (wn + 1))).keeps (g16.trans (g17.trans g18))).keeps S18.s.sub).keeps k19
          refine hq D19 _ _ h19 _ _ L19 P19 (R11.fin (by lia) hqs1 hqs2) (none_of_sub hs0 hD19) (hs0.trans k19) (fun z => bare10 (bare7 (bare (bare0 z))))
theorem all : Stmt c.1 c.2.1 c.2.2.1 c.2.2.2.1 c.2.2.2.2.1 c.2.2.2.2.2.1 c.2.2.2.2.2.2.1 c.2.2.2.2.2.2.2.1 c.2.2.2.2.2.2.2.2.1 c.2.2.2.2.2.2.2.2.2.1 c.2.2.2.2.2.2.2.2.2.2.1 c.2.2.2.2.2.2.2.2.2.2.2.1 c.2.2.2.2.2.2.2.2.2.2.2.2.1 c.2.2.2.2.2.2.2.2.2.2.2.2.2.1 c.2.2.2.2.2.2.2.2.2.2.2.2.2.2.1 c.2.2.2.2.2.2.2.2.2.2.2.2.2.2.2.1 c.2.2.2.2.2.2.2.2.2.2.2.2.2.2.2.2.1 c.2.2.2.2.2.2.2.2.2.2.2.2.2.2.2.2.2.1 c.2.2.2.2.2.2.2.2.2.2.2.2.2.2.2.2.2.2.1 c.2.2.2.2.2.2.2.2.2.2.2.2.2.2.2.2.2.2.2 := by
  have h := spec_c
  unfold w dA fA gA uA s p loose mean mg mb g Q E n sft bnd tn ts tb at h
  exact h
end Ru
theorem rulers_spec {w : World} {A : Around} {s : Shared} {p : Program} {loose : List Str} {mean : ExcName → Option Value} {mg mb : Str → Option Value} {g : Heap}
    {Q E : Value → Shared → Prop} {n sft bnd : Nat} {tn ts tb : Tok}
    (X : (hd.heap_1 w.params).In g) (T : Top p loose mean mg mb g) (hk : Sub g s.heap)
    (hh : A.handled = none) (hroom : A.depth + 20 < recursionLimit) (hu : A.units + 200 < cLine) (hn : n < 2 ^ 30) (hs : sft < 2 ^ 30) (hbn : bnd < 2 ^ 30)
    (hq : ∀ D rs ps h' tk gs, DL h' D rs → PairsAre h' rs ps → RFin ps → s.heap.get? D = none → Sub s.heap h' → (AllBare s.gens → AllBare gs) → Q (.ref D) { s with heap := h', toks := tk, gens := gs }) :
    wpAny (model PG w) A (call (.ref 142) [.int (n : Int) tn, .int (sft : Int) ts, .int (bnd : Int) tb]) Q E s := by
  obtain ⟨hA, dA, fA, gA, uA⟩ := A
  dsimp only at hh
  subst hh
  exact of_pick Ru.ne (fun v => Ru.Stmt v.1 v.2.1 v.2.2.1 v.2.2.2.1 v.2.2.2.2.1 v.2.2.2.2.2.1 v.2.2.2.2.2.2.1 v.2.2.2.2.2.2.2.1 v.2.2.2.2.2.2.2.2.1 v.2.2.2.2.2.2.2.2.2.1 v.2.2.2.2.2.2.2.2.2.2.1 v.2.2.2.2.2.2.2.2.2.2.2.1 v.2.2.2.2.2.2.2.2.2.2.2.2.1 v.2.2.2.2.2.2.2.2.2.2.2.2.2.1 v.2.2.2.2.2.2.2.2.2.2.2.2.2.2.1 v.2.2.2.2.2.2.2.2.2.2.2.2.2.2.2.1 v.2.2.2.2.2.2.2.2.2.2.2.2.2.2.2.2.1 v.2.2.2.2.2.2.2.2.2.2.2.2.2.2.2.2.2.1 v.2.2.2.2.2.2.2.2.2.2.2.2.2.2.2.2.2.2.1 v.2.2.2.2.2.2.2.2.2.2.2.2.2.2.2.2.2.2.2) Ru.all (w, dA, fA, gA, uA, s, p, loose, mean, mg, mb, g, Q, E, n, sft, bnd, tn, ts, tb) X T hk hroom hu hn hs hbn hq
end RS
end PartU1

section Shared1
open PySem PySem.W PyProof.Rows PySem.Calls RS
local macro_rules | `(tactic| walk_at $k:str) => if ["exec Assign cons ListComp", "exec For", "call ref", "call type:range", "call type:enumerate", "call type:zip", "call type:list", "call builtin:sum", "call builtin:min", "getMethod ref", "eval Lambda", "storeName", "eval ListComp", "newList", "pyIter ref", "subscriptTail", "assign Tuple", "compareOp NotEq ref ref", "compareOp Eq ref ref", "compareOp In int ref", "binaryOp Add ref ref", "Post"].contains k.getString then `(tactic| (refine Stop.of ?_)) else Lean.Macro.throwUnsupported
local macro_rules | `(tactic| walk_at "binaryOp FloorDiv int int") => `(tactic| (k_here; refine fdivS (by omega) (by omega) (by omega) (by omega) ?_))
local macro_rules | `(tactic| walk_at "binaryOp Mod int int") => `(tactic| (k_here; refine fmodS (by omega) ?_))
local macro_rules | `(tactic| walk_at "call builtin:len") => `(tactic| (k_here; refine Fm.len (by with_reducible assumption) (by with_reducible assumption) (by omega) ?_; intro t' tk'))

theorem RS.forgetU8 {prog : PySem.Program} {w : PySem.World} {A : PySem.Around} {env : PySem.Env} {Q : PySem.Flow → PySem.Shared → Prop} {E : PySem.Value → PySem.Shared → Prop} {s : PySem.Shared}
    (h : PySem.wpAny (PySem.model prog w) A (PySem.execs [] env) Q E s) : PySem.wpAny (PySem.model prog w) A (PySem.execs [] env) Q E s := by
  first | (walk1; fail "no") | skip
  w_top off
  exact h

section PartU8
open PySem PySem.W PyProof.Rows PySem.Calls
set_option Elab.async false
set_option maxRecDepth 100000
namespace RS
theorem fillU8 : (fun (_ : Params → Frag) (_ : OpenLaw) => True) hd.heap_1 PySem.Challenge.rw_rs0192_01 := by
  k_fill
  trivial
namespace L6
abbrev V : Type := (World) × (Nat) × (Option (List Env)) × (Option (List Code)) × (Nat) × (Shared) × (Program) × (List Str) × (ExcName → Option Value) × (Str → Option Value) × (Str → Option Value) × (Heap) × (Heap) × (Str → Option Value) × (Flow → Shared → Prop) × (Value → Shared → Prop) × (Addr) × (Addr) × (List Value) × (List (Int × Int)) × (Nat) × (Nat) × (Nat) × (Nat) × (Nat) × (Nat) × (Nat) × (Array Value) × (Tok) × (Tok) × (Tok) × (Tok) × (Tok) × (Tok) × (Addr) × (List Value) × (List Int) × (Addr) × (Addr) × (List Value) × (List Value)
def Say (w : World) (dA : Nat) (fA : Option (List Env)) (gA : Option (List Code)) (uA : Nat) (s : Shared) (p : Program) (loose : List Str) (mean : ExcName → Option Value) (mg : Str → Option Value) (mb : Str → Option Value) (G0 : Heap) (G : Heap) (m : Str → Option Value) (Q : Flow → Shared → Prop) (E : Value → Shared → Prop) (D : Addr) (R : Addr) (rs : List Value) (ps : List (Int × Int)) (c0 : Nat) (c1 : Nat) (c2 : Nat) (c3 : Nat) (n : Nat) (bd : Nat) (rc : Nat) (pt : Array Value) (tr : Tok) (w0 : Tok) (w1 : Tok) (w2 : Tok) (w3 : Tok) (tb : Tok) (K : Addr) (kv : List Value) (cs : List Int) (Z : Addr) (U : Addr) (zv : List Value) (uv : List Value) : Prop := ∀ (body : List Stmt) (scope : Scope) (hfn : LawFn (hd.heap_1 w.params) body scope) (X : (hd.heap_1 w.params).In G0) (T : Top p loose mean mg mb G0) (C1 : CodeHd G0 167 163) (C2 : CodeHd G0 172 170) (hroom : dA + 50 < recursionLimit) (hu : uA + 350 < cLine) (S : Fm G0 (lawEnv scope n) [(163, tabObj #[]), (170, tabObj pt)] G s.heap m) (n1 : m "cells" = some (.ref D)) (hD : DL G D [Value.int (c0 : Int) w0, Value.int (c1 : Int) w1, Value.int (c2 : Int) w2, Value.int (c3 : Int) w3]) (hc3 : c3 < 1000000) (n2 : m "rulers" = some (.ref R)) (hR : DL G R rs) (hP : PairsAre G rs ps) (hfin : RFin ps) (n3 : m "bound" = some (.int (bd : Int) tb)) (hbd : 2 ^ ps.length = bd) (n6 : m "reach" = some (.int (rc : Int) tr)) (hrc : reachOf (rowOf ps bd) = rc) (n7 : m "columns" = some (.ref K)) (hK : DL G K kv) (hKi : IntsAre kv cs) (hcl : cs.length ≤ 2) (hcs : ∀ c ∈ cs, 1 ≤ c ∧ c ≤ (bd : Int)) (n8 : m "stops" = some (.ref Z)) (hZ : DL G Z zv) (hrowsZ : RowsC G zv (cs.map fun c => (ps.map fun q => c + (q.1 - c) % q.2).map PyData.int)) (n9 : m "found" = some (.ref U)) (hU : DL G U uv) (hrowsU : RowsC G uv (cs.map fun c => (ps.map fun q => decide ((c - q.1) % q.2 = 0)).map PyData.bool)) (hq : ∀ h' d tk gs, Sub G0 h' → (∃ pt, h'.get? 163 = some (tabObj pt)) → (∃ pt, h'.get? 170 = some (tabObj pt)) → (AllBare s.gens → AllBare gs) → Q (.ret (.bool true)) { s with heap := h', drawn := d, toks := tk, gens := gs }),
    wpAny (model PG w) (Around.mk none dA fA gA uA) (execs (body.drop 13) (lawEnv scope n)) Q E s
theorem ne : Nonempty V := ⟨((Classical.choice neW), 0, none, none, 0, {}, default, [], (fun _ => none), (fun _ => none), (fun _ => none), {}, {}, (fun _ => none), (fun _ _ => True), (fun _ _ => True), 0, 0, [], [], 0, 0, 0, 0, 0, 0, 0, default, 0, 0, 0, 0, 0, 0, 0, [], [], 0, 0, [], [])⟩
noncomputable def c : V := pick ne fun v => Say v.1 v.2.1 v.2.2.1 v.2.2.2.1 v.2.2.2.2.1 v.2.2.2.2.2.1 v.2.2.2.2.2.2.1 v.2.2.2.2.2.2.2.1 v.2.2.2.2.2.2.2.2.1 v.2.2.2.2.2.2.2.2.2.1 v.2.2.2.2.2.2.2.2.2.2.1 v.2.2.2.2.2.2.2.2.2.2.2.1 v.2.2.2.2.2.2.2.2.2.2.2.2.1 v.2.2.2.2.2.2.2.2.2.2.2.2.2.1 v.2.2.2.2.2.2.2.2.2.2.2.2.2.2.1 v.2.2.2.2.2.2.2.2.2.2.2.2.2.2.2.1 v.2.2.2.2.2.2.2.2.2.2.2.2.2.2.2.2.1 v.2.2.2.2.2.2.2.2.2.2.2.2.2.2.2.2.2.1 v.2.2.2.2.2.2.2.2.2.2.2.2.2.2.2.2.2.2.1 v.2.2.2.2.2.2.2.2.2.2.2.2.2.2.2.2.2.2.2.1 v.2.2.2.2.2.2.2.2.2.2.2.2.2.2.2.2.2.2.2.2.1 v.2.2.2.2.2.2.2.2.2.2.2.2.2.2.2.2.2.2.2.2.2.1 v.2.2.2.2.2.2.2.2.2.2.2.2.2.2.2.2.2.2.2.2.2.2.1 v.2.2.2.2.2.2.2.2.2.2.2.2.2.2.2.2.2.2.2.2.2.2.2.1 v.2.2.2.2.2.2.2.2.2.2.2.2.2.2.2.2.2.2.2.2.2.2.2.2.1 v.2.2.2.2.2.2.2.2.2.2.2.2.2.2.2.2.2.2.2.2.2.2.2.2.2.1 v.2.2.2.2.2.2.2.2.2.2.2.2.2.2.2.2.2.2.2.2.2.2.2.2.2.2.1 v.2.2.2.2.2.2.2.2.2.2.2.2.2.2.2.2.2.2.2.2.2.2.2.2.2.2.2.1 v.2.2.2.2.2.2.2.2.2.2.2.2.2.2.2.2.2.2.2.2.2.2.2.2.2.2.2.2.1 v.2.2.2.2.2.2.2.2.2.2.2.2.2.2.2.2.2.2.2.2.2.2.2.2.2.2.2.2.2.1 v.2.2.2.2.2.2.2.2.2.2.2.2.2.2.2.2.2.2.2.2.2.2.2.2.2.2.2.2.2.2.1 v.2.2.2.2.2.2.2.2.2.2.2.2.2.2.2.2.2.2.2.2.2.2.2.2.2.2.2.2.2.2.2.1 v.2.2.2.2.2.2.2.2.2.2.2.2.2.2.2.2.2.2.2.2.2.2.2.2.2.2.2.2.2.2.2.2.1 v.2.2.2.2.2.2.2.2.2.2.2.2.2.2.2.2.2.2.2.2.2.2.2.2.2.2.2.2.2.2.2.2.2.1 v.2.2.2.2.2.2.2.2.2.2.2.2.2.2.2.2.2.2.2.2.2.2.2.2.2.2.2.2.2.2.2.2.2.2.1 v.2.2.2.2.2.2.2.2.2.2.2.2.2.2.2.2.2.2.2.2.2.2.2.2.2.2.2.2.2.2.2.2.2.2.2.1 v.2.2.2.2.2.2.2.2.2.2.2.2.2.2.2.2.2.2.2.2.2.2.2.2.2.2.2.2.2.2.2.2.2.2.2.2.1 v.2.2.2.2.2.2.2.2.2.2.2.2.2.2.2.2.2.2.2.2.2.2.2.2.2.2.2.2.2.2.2.2.2.2.2.2.2.1 v.2.2.2.2.2.2.2.2.2.2.2.2.2.2.2.2.2.2.2.2.2.2.2.2.2.2.2.2.2.2.2.2.2.2.2.2.2.2.1 v.2.2.2.2.2.2.2.2.2.2.2.2.2.2.2.2.2.2.2.2.2.2.2.2.2.2.2.2.2.2.2.2.2.2.2.2.2.2.2.1 v.2.2.2.2.2.2.2.2.2.2.2.2.2.2.2.2.2.2.2.2.2.2.2.2.2.2.2.2.2.2.2.2.2.2.2.2.2.2.2.2
@[irreducible] noncomputable def w : World := c.1
@[irreducible] noncomputable def dA : Nat := c.2.1
@[irreducible] noncomputable def fA : Option (List Env) := c.2.2.1
@[irreducible] noncomputable def gA : Option (List Code) := c.2.2.2.1
@[irreducible] noncomputable def uA : Nat := c.2.2.2.2.1
@[irreducible] noncomputable def s : Shared := c.2.2.2.2.2.1
@[irreducible] noncomputable def p : Program := c.2.2.2.2.2.2.1
@[irreducible] noncomputable def loose : List Str := c.2.2.2.2.2.2.2.1
@[irreducible] noncomputable def mean : ExcName → Option Value := c.2.2.2.2.2.2.2.2.1
@[irreducible] noncomputable def mg : Str → Option Value := c.2.2.2.2.2.2.2.2.2.1
@[irreducible] noncomputable def mb : Str → Option Value := c.2.2.2.2.2.2.2.2.2.2.1
@[irreducible] noncomputable def G0 : Heap := c.2.2.2.2.2.2.2.2.2.2.2.1
@[irreducible] noncomputable def G : Heap := c.2.2.2.2.2.2.2.2.2.2.2.2.1
@[irreducible] noncomputable def m : Str → Option Value := c.2.2.2.2.2.2.2.2.2.2.2.2.2.1
@[irreducible] noncomputable def Q : Flow → Shared → Prop := c.2.2.2.2.2.2.2.2.2.2.2.2.2.2.1
@[irreducible] noncomputable def E : Value → Shared → Prop := c.2.2.2.2.2.2.2.2.2.2.2.2.2.2.2.1
@[irreducible] noncomputable def D : Addr := c.2.2.2.2.2.2.2.2.2.2.2.2.2.2.2.2.1
@[irreducible] noncomputable def R : Addr := c.2.2.2.2.2.2.2.2.2.2.2.2.2.2.2.2.2.1
@[irreducible] noncomputable def rs : List Value := c.2.2.2.2.2.2.2.2.2.2.2.2.2.2.2.2.2.2.1
@[irreducible] noncomputable def ps : List (Int × Int) := c.2.2.2.2.2.2.2.2.2.2.2.2.2.2.2.2.2.2.2.1
@[irreducible] noncomputable def c0 : Nat := c.2.2.2.2.2.2.2.2.2.2.2.2.2.2.2.2.2.2.2.2.1
@[irreducible] noncomputable def c1 : Nat := c.2.2.2.2.2.2.2.2.2.2.2.2.2.2.2.2.2.2.2.2.2.1
@[irreducible] noncomputable def c2 : Nat := c.2.2.2.2.2.2.2.2.2.2.2.2.2.2.2.2.2.2.2.2.2.2.1
@[irreducible] noncomputable def c3 : Nat := c.2.2.2.2.2.2.2.2.2.2.2.2.2.2.2.2.2.2.2.2.2.2.2.1
@[irreducible] noncomputable def n : Nat := c.2.2.2.2.2.2.2.2.2.2.2.2.2.2.2.2.2.2.2.2.2.2.2.2.1
@[irreducible] noncomputable def bd : Nat := c.2.2.2.2.2.2.2.2.2.2.2.2.2.2.2.2.2.2.2.2.2.2.2.2.2.1
@[irreducible] noncomputable def rc : Nat := c.2.2.2.2.2.2.2.2.2.2.2.2.2.2.2.2.2.2.2.2.2.2.2.2.2.2.1
@[irreducible] noncomputable def pt : Array Value := c.2.2.2.2.2.2.2.2.2.2.2.2.2.2.2.2.2.2.2.2.2.2.2.2.2.2.2.1
@[irreducible] noncomputable def tr : Tok := c.2.2.2.2.2.2.2.2.2.2.2.2.2.2.2.2.2.2.2.2.2.2.2.2.2.2.2.2.1
@[irreducible] noncomputable def w0 : Tok := c.2.2.2.2.2.2.2.2.2.2.2.2.2.2.2.2.2.2.2.2.2.2.2.2.2.2.2.2.2.1
@[irreducible] noncomputable def w1 : Tok := c.2.2.2.2.2.2.2.2.2.2.2.2.2.2.2.2.2.2.2.2.2.2.2.2.2.2.2.2.2.2.1
@[irreducible] noncomputable def w2 : Tok := c.2.2.2.2.2.2.2.2.2.2.2.2.2.2.2.2.2.2.2.2.2.2.2.2.2.2.2.2.2.2.2.1
@[irreducible] noncomputable def w3 : Tok := c.2.2.2.2.2.2.2.2.2.2.2.2.2.2.2.2.2.2.2.2.2.2.2.2.2.2.2.2.2.2.2.2.1
@[irreducible] noncomputable def tb : Tok := c.2.2.2.2.2.2.2.2.2.2.2.2.2.2.2.2.2.2.2.2.2.2.2.2.2.2.2.2.2.2.2.2.2.1
@[irreducible] noncomputable def K : Addr := c.2.2.2.2.2.2.2.2.2.2.2.2.2.2.2.2.2.2.2.2.2.2.2.2.2.2.2.2.2.2.2.2.2.2.1
@[irreducible] noncomputable def kv : List Value := c.2.2.2.2.2.2.2.2.2.2.2.2.2.2.2.2.2.2.2.2.2.2.2.2.2.2.2.2.2.2.2.2.2.2.2.1
@[irreducible] noncomputable def cs : List Int := c.2.2.2.2.2.2.2.2.2.2.2.2.2.2.2.2.2.2.2.2.2.2.2.2.2.2.2.2.2.2.2.2.2.2.2.2.1
@[irreducible] noncomputable def Z : Addr := c.2.2.2.2.2.2.2.2.2.2.2.2.2.2.2.2.2.2.2.2.2.2.2.2.2.2.2.2.2.2.2.2.2.2.2.2.2.1
@[irreducible] noncomputable def U : Addr := c.2.2.2.2.2.2.2.2.2.2.2.2.2.2.2.2.2.2.2.2.2.2.2.2.2.2.2.2.2.2.2.2.2.2.2.2.2.2.1
@[irreducible] noncomputable def zv : List Value := c.2.2.2.2.2.2.2.2.2.2.2.2.2.2.2.2.2.2.2.2.2.2.2.2.2.2.2.2.2.2.2.2.2.2.2.2.2.2.2.1
@[irreducible] noncomputable def uv : List Value := c.2.2.2.2.2.2.2.2.2.2.2.2.2.2.2.2.2.2.2.2.2.2.2.2.2.2.2.2.2.2.2.2.2.2.2.2.2.2.2.2
set_option maxHeartbeats 2000000 in
theorem spec_c : Say w dA fA gA uA s p loose mean mg mb G0 G m Q E D R rs ps c0 c1 c2 c3 n bd rc pt tr w0 w1 w2 w3 tb K kv cs Z U zv uv := by
  intro body scope hfn X T C1 C2 hroom hu S n1 hD hc3 n2 hR hP hfin n3 hbd n6 hrc n7 hK hKi hcl hcs n8 hZ hrowsZ n9 hU hrowsU hq
  have hrl : rs.length = ps.length := hP.1
  have hps5 := hfin.1
  have hbd1 : 1 ≤ bd ∧ bd ≤ 32 := by
    rw [← hbd]
    rcases (by lia : ps.length = 0 ∨ ps.length = 1 ∨ ps.length = 2 ∨ ps.length = 3 ∨ ps.length = 4 ∨ ps.length = 5) with e | e | e | e | e | e <;> rw [e] <;> decide
  have hfn0 := hfn
  obtain ⟨oc, od, osl, name, qual, params, dV, kV, doc, pm, cdv, ct, an, hfn⟩ := hfn
  refine' fn_same hfn ?key ?_
  case key => k_is
  intro e1 e2
  subst e1 e2
  clear hfn
  simp only [List.drop_succ_cons, List.drop_zero]
  have hkl : kv.length = cs.length := hKi.length
  have hzl : zv.length = cs.length := by simpa using hrowsZ.1
  k_steps
  refine Stop.go ?_
  refine LC (m := m) rfl rfl (BlockOk.of (by decide +kernel) (fun _ h => nomatch h)) ?_
  refine LCr (n := min zv.length kv.length) (B := BZip "told" "column" zv kv) ["told", "column"] (fun i => (ps.map fun q => decide (((cs.getD i 0) - q.1) % q.2 = 0)).map PyData.bool) S.s.v (by rw [sizeLine_eq]; lia) BZip.tg (List.forall_mem_cons.mpr ⟨.inl rfl, List.forall_mem_cons.mpr ⟨.inr rfl, fun _ h => nomatch h⟩⟩) (by decide) ?_ (fun C i s₃ bs hC hi hb k3 V3 bare => ?_) (fun Y yv h7 gs7 tk7 hrowsY hY hDLY k7 V7 bare7 => ?_)
  · k_steps
    refine Stop.go ?_
    exact zipS rfl (Sub.refl _) (Nat.le_refl _) (hZ.lst.at fun o e => S.s.sub _ _ e) (hK.lst.at fun o e => S.s.sub _ _ e) _ _ _ _ _ _
  · obtain ⟨a1, a2, rfl, hz, hv⟩ := hb
    obtain ⟨c, tc, rfl, hc⟩ := ints_at hKi hv
    obtain ⟨tb', ws, ds, rfl, hwD, hds, hwc⟩ := hrowsZ.2 i a1 hz
    rw [List.getElem?_map, hc] at hds
    cases hds
    rw [show cs.getD i 0 = c by rw [List.getD_eq_getElem?_getD, hc]; rfl]
    obtain ⟨M, V, e1, e2⟩ := V3
    have q1 : M "column" = some (.int c tc) := e1 _ (.tail _ (.head _))
    have q2 : M "told" = some (.ref tb') := e1 _ (.head _)
    have B : Bas G0 s₃.heap := S.kb.trans k3
    have BG : Sub G s₃.heap := S.s.sub.trans k3
    have hI := ints_of_carried hwc
    have hwl : ws.length = ps.length := by have := hI.length; simpa using this
    clear S
    refine LC (m := M) rfl rfl (BlockOk.of (by decide +kernel) (List.forall_mem_cons.mpr ⟨⟨rfl, rfl⟩, fun _ h => nomatch h⟩)) ?_
    refine LCc (n := ws.length) (B := BList "stop" ws) ["stop"] (fun j => .bool (decide ((c - (ps.getD j (0, 0)).1) % (ps.getD j (0, 0)).2 = 0))) V (by rw [sizeLine_eq]; lia) BList.tg (List.forall_mem_cons.mpr ⟨.inl rfl, fun _ h => nomatch h⟩) (by decide) ?_ (fun C2 j s₄ bs2 hC2 hj hb2 k4 V4 bare4 => ?_) (fun N3 us h3 gs3 tk3 hc3 hN3 hDL3 k5 V5 bare5 => ?_)
    · k_steps
      refine Stop.go ?_
      exact src_list rfl (Sub.refl _) (Nat.le_refl _) (hwD.lst.at fun o e => BG _ _ e) _ _
    · obtain ⟨v, rfl, hv⟩ := hb2
      obtain ⟨z, tz, rfl, hz2⟩ := ints_at hI hv
      rw [List.getElem?_map] at hz2
      obtain ⟨pr, hpj, rfl⟩ := Option.map_eq_some_iff.mp hz2
      obtain ⟨r1, r2, r3⟩ := hfin.2 pr (List.mem_of_getElem? hpj)
      rw [show ps.getD j (0, 0) = pr by rw [List.getD_eq_getElem?_getD, hpj]; rfl]
      obtain ⟨M4, V, e3, e4⟩ := V4
      have q3 : M4 "stop" = some (.int (c + (pr.1 - c) % pr.2) tz) := e3 _ (.head _)
      have q1 := (e4 "column" rfl).trans q1
      have B : Bas G0 s₄.heap := B.trans k4
      refine wpAny_mono (Q := fun v s' => Stop (Post s₄ (fun z _ => Carried z (.bool (decide ((c - pr.1) % pr.2 = 0)))) v s')) ?_ (fun _ _ x => x) (fun _ _ x => x)
      k_steps
      rw [stop_is (by lia)]
      exact Stop.go ⟨_, _, _, rfl, ⟨Sub.refl _, id⟩, .bool _⟩
    · refine ⟨_, _, _, rfl, ⟨k5, bare5⟩, N3, us, rfl, hN3, hDL3, ?_⟩
      rw [hwl] at hc3
      rw [List.map_map, ← map_getD (d := ((0 : Int), (0 : Int))) ps]
      exact hc3
  · obtain ⟨G7, S7, g7, new7⟩ := S.up (h' := h7) k7
    have hrowsY := hrowsY G7 new7
    rw [show min zv.length kv.length = cs.length by lia, map_getD cs fun c => (ps.map fun q => decide ((c - q.1) % q.2 = 0)).map PyData.bool] at hrowsY
    clear S V7
    k_steps
    refine Stop.go ?_
    refine rows_ne ((hU.at fun o e => g7 _ _ e).at fun o e => S7.s.sub _ _ e) ((hrowsU.keeps g7).keeps S7.s.sub) hDLY (hrowsY.keeps S7.s.sub) (fun ds hds d hd => ?_) (by show uA + 64 < _; lia) ?_
    · obtain ⟨q, _, rfl⟩ := List.mem_map.mp hds
      exact flat_bools _ d hd
    k_steps
    refine Stop.go ?_
    refine item_list (v := .int (c3 : Int) w3) (hD.lst.at fun o e => S7.s.sub _ _ (g7 _ _ e)) (by decide) (by decide) rfl ?_
    k_steps
    refine Stop.go ?_
    refine Fm.stL S7 rfl rfl rfl fun h8 tk8 m8 S8 e8 f8 => ?_
    have n2 := (f8 "rulers" (by decide)).trans n2
    have n3 := (f8 "bound" (by decide)).trans n3
    have n6 := (f8 "reach" (by decide)).trans n6
    rw [show (40 : Int) + (c3 : Int) % 200 = ((40 + c3 % 200 : Nat) : Int) by lia] at e8
    clear S7 f8
    dsimp only at e8 ⊢
    k_steps
    · exact X.keeps S8.kb
    refine Stop.go ?_
    have h163 := S8.s.oth (163, _) (.head _)
    refine far_spec X T S8.kb C1 (none_of_sub S8.b h163.1) h163.2 rfl (by show dA + 25 < _; lia) ((hR.at fun o e => g7 _ _ e).at fun o e => S8.s.sub _ _ e) ((hP.keeps g7).keeps S8.s.sub) hfin (by lia) hbd1.2 fun F fv fns h9 d9 tk9 gs9 hF hFi hFs hFm hFn k9 ht9 bare9 => ?_
    obtain ⟨pt9, ht9⟩ := ht9
    dsimp only at hFn k9 bare9 ⊢
    obtain ⟨G9, S9, g9, new9⟩ := Fm.setX (xs₁ := []) S8 k9 ht9
    have hF9 : DL G9 F fv := hF.at fun o e => new9 _ _ hFn e
    clear S8 h163
    have e8' := e8
    k_steps
    refine Stop.go (Fm.range2 S9 fun r G10 h10 tk10 u10 S10 g10 hr10 _ => ?_)
    k_steps
    refine Stop.go ?_
    refine Fm.listRange (n := bd) rfl S10 (S10.s.sub _ _ hr10) (small_one (by lia) (by lia) (by lia) (by lia)) (by rw [rangeSize_one]; split <;> lia) (by lia) fun L G11 h11 lw tk11 S11 g11 L11 I11 _ => ?_
    clear S9 S10
    k_steps
    refine Stop.go ?_
    refine row_eq ((hF9.at fun o e => g11 _ _ (g10 _ _ e)).at fun o e => S11.s.sub _ _ e) hFi (L11.at fun o e => S11.s.sub _ _ e) I11 (by show uA + 64 < _; lia) ?_
    rw [far_iff hfin hbd hrc (by lia) hFs hFm]
    k_steps
    rw [show (decide ((rc : Int) = (bd : Int)) == ((rc : Int) == (bd : Int))) = true by show (decide _ == decide _) = true; simp]
    exact hq h11 d9 tk11 gs9 S11.kb ⟨_, (S11.s.oth (163, _) (.head _)).2⟩ ⟨_, (S11.s.oth (170, _) (.tail _ (.head _))).2⟩ (fun z => bare9 (bare7 z))
theorem all : Say c.1 c.2.1 c.2.2.1 c.2.2.2.1 c.2.2.2.2.1 c.2.2.2.2.2.1 c.2.2.2.2.2.2.1 c.2.2.2.2.2.2.2.1 c.2.2.2.2.2.2.2.2.1 c.2.2.2.2.2.2.2.2.2.1 c.2.2.2.2.2.2.2.2.2.2.1 c.2.2.2.2.2.2.2.2.2.2.2.1 c.2.2.2.2.2.2.2.2.2.2.2.2.1 c.2.2.2.2.2.2.2.2.2.2.2.2.2.1 c.2.2.2.2.2.2.2.2.2.2.2.2.2.2.1 c.2.2.2.2.2.2.2.2.2.2.2.2.2.2.2.1 c.2.2.2.2.2.2.2.2.2.2.2.2.2.2.2.2.1 c.2.2.2.2.2.2.2.2.2.2.2.2.2.2.2.2.2.1 c.2.2.2.2.2.2.2.2.2.2.2.2.2.2.2.2.2.2.1 c.2.2.2.2.2.2.2.2.2.2.2.2.2.2.2.2.2.2.2.1 c.2.2.2.2.2.2.2.2.2.2.2.2.2.2.2.2.2.2.2.2.1 c.2.2.2.2.2.2.2.2.2.2.2.2.2.2.2.2.2.2.2.2.2.1 c.2.2.2.2.2.2.2.2.2.2.2.2.2.2.2.2.2.2.2.2.2.2.1 c.2.2.2.2.2.2.2.2.2.2.2.2.2.2.2.2.2.2.2.2.2.2.2.1 c.2.2.2.2.2.2.2.2.2.2.2.2.2.2.2.2.2.2.2.2.2.2.2.2.1 c.2.2.2.2.2.2.2.2.2.2.2.2.2.2.2.2.2.2.2.2.2.2.2.2.2.1 c.2.2.2.2.2.2.2.2.2.2.2.2.2.2.2.2.2.2.2.2.2.2.2.2.2.2.1 c.2.2.2.2.2.2.2.2.2.2.2.2.2.2.2.2.2.2.2.2.2.2.2.2.2.2.2.1 c.2.2.2.2.2.2.2.2.2.2.2.2.2.2.2.2.2.2.2.2.2.2.2.2.2.2.2.2.1 c.2.2.2.2.2.2.2.2.2.2.2.2.2.2.2.2.2.2.2.2.2.2.2.2.2.2.2.2.2.1 c.2.2.2.2.2.2.2.2.2.2.2.2.2.2.2.2.2.2.2.2.2.2.2.2.2.2.2.2.2.2.1 c.2.2.2.2.2.2.2.2.2.2.2.2.2.2.2.2.2.2.2.2.2.2.2.2.2.2.2.2.2.2.2.1 c.2.2.2.2.2.2.2.2.2.2.2.2.2.2.2.2.2.2.2.2.2.2.2.2.2.2.2.2.2.2.2.2.1 c.2.2.2.2.2.2.2.2.2.2.2.2.2.2.2.2.2.2.2.2.2.2.2.2.2.2.2.2.2.2.2.2.2.1 c.2.2.2.2.2.2.2.2.2.2.2.2.2.2.2.2.2.2.2.2.2.2.2.2.2.2.2.2.2.2.2.2.2.2.1 c.2.2.2.2.2.2.2.2.2.2.2.2.2.2.2.2.2.2.2.2.2.2.2.2.2.2.2.2.2.2.2.2.2.2.2.1 c.2.2.2.2.2.2.2.2.2.2.2.2.2.2.2.2.2.2.2.2.2.2.2.2.2.2.2.2.2.2.2.2.2.2.2.2.1 c.2.2.2.2.2.2.2.2.2.2.2.2.2.2.2.2.2.2.2.2.2.2.2.2.2.2.2.2.2.2.2.2.2.2.2.2.2.1 c.2.2.2.2.2.2.2.2.2.2.2.2.2.2.2.2.2.2.2.2.2.2.2.2.2.2.2.2.2.2.2.2.2.2.2.2.2.2.1 c.2.2.2.2.2.2.2.2.2.2.2.2.2.2.2.2.2.2.2.2.2.2.2.2.2.2.2.2.2.2.2.2.2.2.2.2.2.2.2.1 c.2.2.2.2.2.2.2.2.2.2.2.2.2.2.2.2.2.2.2.2.2.2.2.2.2.2.2.2.2.2.2.2.2.2.2.2.2.2.2.2 := by
  have h := spec_c
  unfold w dA fA gA uA s p loose mean mg mb G0 G m Q E D R rs ps c0 c1 c2 c3 n bd rc pt tr w0 w1 w2 w3 tb K kv cs Z U zv uv at h
  exact h
end L6
theorem law6 {w : World} {A : Around} {s : Shared} {p : Program} {loose : List Str} {mean : ExcName → Option Value} {mg mb : Str → Option Value} {G0 G : Heap} {m : Str → Option Value}
    {Q : Flow → Shared → Prop} {E : Value → Shared → Prop} {D R : Addr} {rs : List Value} {ps : List (Int × Int)} {c0 c1 c2 c3 n bd rc : Nat} {pt : Array Value} {tr : Tok} {w0 w1 w2 w3 tb : Tok} {body : List Stmt} {scope : Scope} (hfn : LawFn (hd.heap_1 w.params) body scope)
    (X : (hd.heap_1 w.params).In G0) (T : Top p loose mean mg mb G0) (C1 : CodeHd G0 167 163) (C2 : CodeHd G0 172 170)
    (hh : A.handled = none) (hroom : A.depth + 50 < recursionLimit) (hu : A.units + 350 < cLine)
    (S : Fm G0 (lawEnv scope n) [(163, tabObj #[]), (170, tabObj pt)] G s.heap m) (n1 : m "cells" = some (.ref D)) (hD : DL G D [Value.int (c0 : Int) w0, Value.int (c1 : Int) w1, Value.int (c2 : Int) w2, Value.int (c3 : Int) w3]) (hc3 : c3 < 1000000)
    (n2 : m "rulers" = some (.ref R)) (hR : DL G R rs) (hP : PairsAre G rs ps) (hfin : RFin ps) (n3 : m "bound" = some (.int (bd : Int) tb)) (hbd : 2 ^ ps.length = bd)
    (n6 : m "reach" = some (.int (rc : Int) tr)) (hrc : reachOf (rowOf ps bd) = rc) {K : Addr} {kv : List Value} {cs : List Int} (n7 : m "columns" = some (.ref K)) (hK : DL G K kv) (hKi : IntsAre kv cs) (hcl : cs.length ≤ 2) (hcs : ∀ c ∈ cs, 1 ≤ c ∧ c ≤ (bd : Int))
    {Z U : Addr} {zv uv : List Value} (n8 : m "stops" = some (.ref Z)) (hZ : DL G Z zv) (hrowsZ : RowsC G zv (cs.map fun c => (ps.map fun q => c + (q.1 - c) % q.2).map PyData.int)) (n9 : m "found" = some (.ref U)) (hU : DL G U uv) (hrowsU : RowsC G uv (cs.map fun c => (ps.map fun q => decide ((c - q.1) % q.2 = 0)).map PyData.bool))
    (hq : ∀ h' d tk gs, Sub G0 h' → (∃ pt, h'.get? 163 = some (tabObj pt)) → (∃ pt, h'.get? 170 = some (tabObj pt)) → (AllBare s.gens → AllBare gs) → Q (.ret (.bool true)) { s with heap := h', drawn := d, toks := tk, gens := gs }) :
    wpAny (model PG w) A (execs (body.drop 13) (lawEnv scope n)) Q E s := by
  obtain ⟨hA, dA, fA, gA, uA⟩ := A
  dsimp only at hh
  subst hh
  exact of_pick L6.ne (fun v => L6.Say v.1 v.2.1 v.2.2.1 v.2.2.2.1 v.2.2.2.2.1 v.2.2.2.2.2.1 v.2.2.2.2.2.2.1 v.2.2.2.2.2.2.2.1 v.2.2.2.2.2.2.2.2.1 v.2.2.2.2.2.2.2.2.2.1 v.2.2.2.2.2.2.2.2.2.2.1 v.2.2.2.2.2.2.2.2.2.2.2.1 v.2.2.2.2.2.2.2.2.2.2.2.2.1 v.2.2.2.2.2.2.2.2.2.2.2.2.2.1 v.2.2.2.2.2.2.2.2.2.2.2.2.2.2.1 v.2.2.2.2.2.2.2.2.2.2.2.2.2.2.2.1 v.2.2.2.2.2.2.2.2.2.2.2.2.2.2.2.2.1 v.2.2.2.2.2.2.2.2.2.2.2.2.2.2.2.2.2.1 v.2.2.2.2.2.2.2.2.2.2.2.2.2.2.2.2.2.2.1 v.2.2.2.2.2.2.2.2.2.2.2.2.2.2.2.2.2.2.2.1 v.2.2.2.2.2.2.2.2.2.2.2.2.2.2.2.2.2.2.2.2.1 v.2.2.2.2.2.2.2.2.2.2.2.2.2.2.2.2.2.2.2.2.2.1 v.2.2.2.2.2.2.2.2.2.2.2.2.2.2.2.2.2.2.2.2.2.2.1 v.2.2.2.2.2.2.2.2.2.2.2.2.2.2.2.2.2.2.2.2.2.2.2.1 v.2.2.2.2.2.2.2.2.2.2.2.2.2.2.2.2.2.2.2.2.2.2.2.2.1 v.2.2.2.2.2.2.2.2.2.2.2.2.2.2.2.2.2.2.2.2.2.2.2.2.2.1 v.2.2.2.2.2.2.2.2.2.2.2.2.2.2.2.2.2.2.2.2.2.2.2.2.2.2.1 v.2.2.2.2.2.2.2.2.2.2.2.2.2.2.2.2.2.2.2.2.2.2.2.2.2.2.2.1 v.2.2.2.2.2.2.2.2.2.2.2.2.2.2.2.2.2.2.2.2.2.2.2.2.2.2.2.2.1 v.2.2.2.2.2.2.2.2.2.2.2.2.2.2.2.2.2.2.2.2.2.2.2.2.2.2.2.2.2.1 v.2.2.2.2.2.2.2.2.2.2.2.2.2.2.2.2.2.2.2.2.2.2.2.2.2.2.2.2.2.2.1 v.2.2.2.2.2.2.2.2.2.2.2.2.2.2.2.2.2.2.2.2.2.2.2.2.2.2.2.2.2.2.2.1 v.2.2.2.2.2.2.2.2.2.2.2.2.2.2.2.2.2.2.2.2.2.2.2.2.2.2.2.2.2.2.2.2.1 v.2.2.2.2.2.2.2.2.2.2.2.2.2.2.2.2.2.2.2.2.2.2.2.2.2.2.2.2.2.2.2.2.2.1 v.2.2.2.2.2.2.2.2.2.2.2.2.2.2.2.2.2.2.2.2.2.2.2.2.2.2.2.2.2.2.2.2.2.2.1 v.2.2.2.2.2.2.2.2.2.2.2.2.2.2.2.2.2.2.2.2.2.2.2.2.2.2.2.2.2.2.2.2.2.2.2.1 v.2.2.2.2.2.2.2.2.2.2.2.2.2.2.2.2.2.2.2.2.2.2.2.2.2.2.2.2.2.2.2.2.2.2.2.2.1 v.2.2.2.2.2.2.2.2.2.2.2.2.2.2.2.2.2.2.2.2.2.2.2.2.2.2.2.2.2.2.2.2.2.2.2.2.2.1 v.2.2.2.2.2.2.2.2.2.2.2.2.2.2.2.2.2.2.2.2.2.2.2.2.2.2.2.2.2.2.2.2.2.2.2.2.2.2.1 v.2.2.2.2.2.2.2.2.2.2.2.2.2.2.2.2.2.2.2.2.2.2.2.2.2.2.2.2.2.2.2.2.2.2.2.2.2.2.2.1 v.2.2.2.2.2.2.2.2.2.2.2.2.2.2.2.2.2.2.2.2.2.2.2.2.2.2.2.2.2.2.2.2.2.2.2.2.2.2.2.2) L6.all (w, dA, fA, gA, uA, s, p, loose, mean, mg, mb, G0, G, m, Q, E, D, R, rs, ps, c0, c1, c2, c3, n, bd, rc, pt, tr, w0, w1, w2, w3, tb, K, kv, cs, Z, U, zv, uv) body scope hfn X T C1 C2 hroom hu S n1 hD hc3 n2 hR hP hfin n3 hbd n6 hrc n7 hK hKi hcl hcs n8 hZ hrowsZ n9 hU hrowsU hq
end RS
end PartU8

theorem RS.forgetU7 {prog : PySem.Program} {w : PySem.World} {A : PySem.Around} {env : PySem.Env} {Q : PySem.Flow → PySem.Shared → Prop} {E : PySem.Value → PySem.Shared → Prop} {s : PySem.Shared}
    (h : PySem.wpAny (PySem.model prog w) A (PySem.execs [] env) Q E s) : PySem.wpAny (PySem.model prog w) A (PySem.execs [] env) Q E s := by
  first | (walk1; fail "no") | skip
  w_top off
  exact h

section PartU7
open PySem PySem.W PyProof.Rows PySem.Calls
set_option Elab.async false
set_option maxRecDepth 100000
namespace RS
theorem fillU7 : (fun (_ : Params → Frag) (_ : OpenLaw) => True) hd.heap_1 PySem.Challenge.rw_rs0192_01 := by
  k_fill
  trivial
namespace L5
abbrev V : Type := (World) × (Nat) × (Option (List Env)) × (Option (List Code)) × (Nat) × (Shared) × (Program) × (List Str) × (ExcName → Option Value) × (Str → Option Value) × (Str → Option Value) × (Heap) × (Heap) × (Str → Option Value) × (Flow → Shared → Prop) × (Value → Shared → Prop) × (Addr) × (Addr) × (Addr) × (List Value) × (List Value) × (List (Int × Int)) × (Nat) × (Nat) × (Nat) × (Nat) × (Nat) × (Nat) × (Nat) × (Array Value) × (Tok) × (Tok) × (Tok) × (Tok) × (Tok) × (Tok) × (Addr) × (List Value) × (List Int)
def Say (w : World) (dA : Nat) (fA : Option (List Env)) (gA : Option (List Code)) (uA : Nat) (s : Shared) (p : Program) (loose : List Str) (mean : ExcName → Option Value) (mg : Str → Option Value) (mb : Str → Option Value) (G0 : Heap) (G : Heap) (m : Str → Option Value) (Q : Flow → Shared → Prop) (E : Value → Shared → Prop) (D : Addr) (R : Addr) (N : Addr) (rs : List Value) (ys : List Value) (ps : List (Int × Int)) (c0 : Nat) (c1 : Nat) (c2 : Nat) (c3 : Nat) (n : Nat) (bd : Nat) (rc : Nat) (pt : Array Value) (tr : Tok) (w0 : Tok) (w1 : Tok) (w2 : Tok) (w3 : Tok) (tb : Tok) (K : Addr) (kv : List Value) (cs : List Int) : Prop := ∀ (body : List Stmt) (scope : Scope) (hfn : LawFn (hd.heap_1 w.params) body scope) (X : (hd.heap_1 w.params).In G0) (T : Top p loose mean mg mb G0) (C1 : CodeHd G0 167 163) (C2 : CodeHd G0 172 170) (hroom : dA + 50 < recursionLimit) (hu : uA + 350 < cLine) (S : Fm G0 (lawEnv scope n) [(163, tabObj #[]), (170, tabObj pt)] G s.heap m) (n1 : m "cells" = some (.ref D)) (hD : DL G D [Value.int (c0 : Int) w0, Value.int (c1 : Int) w1, Value.int (c2 : Int) w2, Value.int (c3 : Int) w3]) (hc3 : c3 < 1000000) (n2 : m "rulers" = some (.ref R)) (hR : DL G R rs) (hP : PairsAre G rs ps) (hfin : RFin ps) (n3 : m "bound" = some (.int (bd : Int) tb)) (hbd : 2 ^ ps.length = bd) (n4 : m "near" = some (.ref N)) (hN : DL G N ys) (hrows : RowsC G ys (ps.map fun q => (mksOf q.1.toNat q.2.toNat bd).map PyData.int)) (n6 : m "reach" = some (.int (rc : Int) tr)) (hrc : reachOf (rowOf ps bd) = rc) (n7 : m "columns" = some (.ref K)) (hK : DL G K kv) (hKi : IntsAre kv cs) (hcl : cs.length ≤ 2) (hcs : ∀ c ∈ cs, 1 ≤ c ∧ c ≤ (bd : Int)) (hq : ∀ h' d tk gs, Sub G0 h' → (∃ pt, h'.get? 163 = some (tabObj pt)) → (∃ pt, h'.get? 170 = some (tabObj pt)) → (AllBare s.gens → AllBare gs) → Q (.ret (.bool true)) { s with heap := h', drawn := d, toks := tk, gens := gs }),
    wpAny (model PG w) (Around.mk none dA fA gA uA) (execs (body.drop 10) (lawEnv scope n)) Q E s
theorem ne : Nonempty V := ⟨((Classical.choice neW), 0, none, none, 0, {}, default, [], (fun _ => none), (fun _ => none), (fun _ => none), {}, {}, (fun _ => none), (fun _ _ => True), (fun _ _ => True), 0, 0, 0, [], [], [], 0, 0, 0, 0, 0, 0, 0, default, 0, 0, 0, 0, 0, 0, 0, [], [])⟩
noncomputable def c : V := pick ne fun v => Say v.1 v.2.1 v.2.2.1 v.2.2.2.1 v.2.2.2.2.1 v.2.2.2.2.2.1 v.2.2.2.2.2.2.1 v.2.2.2.2.2.2.2.1 v.2.2.2.2.2.2.2.2.1 v.2.2.2.2.2.2.2.2.2.1 v.2.2.2.2.2.2.2.2.2.2.1 v.2.2.2.2.2.2.2.2.2.2.2.1 v.2.2.2.2.2.2.2.2.2.2.2.2.1 v.2.2.2.2.2.2.2.2.2.2.2.2.2.1 v.2.2.2.2.2.2.2.2.2.2.2.2.2.2.1 v.2.2.2.2.2.2.2.2.2.2.2.2.2.2.2.1 v.2.2.2.2.2.2.2.2.2.2.2.2.2.2.2.2.1 v.2.2.2.2.2.2.2.2.2.2.2.2.2.2.2.2.2.1 v.2.2.2.2.2.2.2.2.2.2.2.2.2.2.2.2.2.2.1 v.2.2.2.2.2.2.2.2.2.2.2.2.2.2.2.2.2.2.2.1 v.2.2.2.2.2.2.2.2.2.2.2.2.2.2.2.2.2.2.2.2.1 v.2.2.2.2.2.2.2.2.2.2.2.2.2.2.2.2.2.2.2.2.2.1 v.2.2.2.2.2.2.2.2.2.2.2.2.2.2.2.2.2.2.2.2.2.2.1 v.2.2.2.2.2.2.2.2.2.2.2.2.2.2.2.2.2.2.2.2.2.2.2.1 v.2.2.2.2.2.2.2.2.2.2.2.2.2.2.2.2.2.2.2.2.2.2.2.2.1 v.2.2.2.2.2.2.2.2.2.2.2.2.2.2.2.2.2.2.2.2.2.2.2.2.2.1 v.2.2.2.2.2.2.2.2.2.2.2.2.2.2.2.2.2.2.2.2.2.2.2.2.2.2.1 v.2.2.2.2.2.2.2.2.2.2.2.2.2.2.2.2.2.2.2.2.2.2.2.2.2.2.2.1 v.2.2.2.2.2.2.2.2.2.2.2.2.2.2.2.2.2.2.2.2.2.2.2.2.2.2.2.2.1 v.2.2.2.2.2.2.2.2.2.2.2.2.2.2.2.2.2.2.2.2.2.2.2.2.2.2.2.2.2.1 v.2.2.2.2.2.2.2.2.2.2.2.2.2.2.2.2.2.2.2.2.2.2.2.2.2.2.2.2.2.2.1 v.2.2.2.2.2.2.2.2.2.2.2.2.2.2.2.2.2.2.2.2.2.2.2.2.2.2.2.2.2.2.2.1 v.2.2.2.2.2.2.2.2.2.2.2.2.2.2.2.2.2.2.2.2.2.2.2.2.2.2.2.2.2.2.2.2.1 v.2.2.2.2.2.2.2.2.2.2.2.2.2.2.2.2.2.2.2.2.2.2.2.2.2.2.2.2.2.2.2.2.2.1 v.2.2.2.2.2.2.2.2.2.2.2.2.2.2.2.2.2.2.2.2.2.2.2.2.2.2.2.2.2.2.2.2.2.2.1 v.2.2.2.2.2.2.2.2.2.2.2.2.2.2.2.2.2.2.2.2.2.2.2.2.2.2.2.2.2.2.2.2.2.2.2.1 v.2.2.2.2.2.2.2.2.2.2.2.2.2.2.2.2.2.2.2.2.2.2.2.2.2.2.2.2.2.2.2.2.2.2.2.2.1 v.2.2.2.2.2.2.2.2.2.2.2.2.2.2.2.2.2.2.2.2.2.2.2.2.2.2.2.2.2.2.2.2.2.2.2.2.2.1 v.2.2.2.2.2.2.2.2.2.2.2.2.2.2.2.2.2.2.2.2.2.2.2.2.2.2.2.2.2.2.2.2.2.2.2.2.2.2
@[irreducible] noncomputable def w : World := c.1
@[irreducible] noncomputable def dA : Nat := c.2.1
@[irreducible] noncomputable def fA : Option (List Env) := c.2.2.1
@[irreducible] noncomputable def gA : Option (List Code) := c.2.2.2.1
@[irreducible] noncomputable def uA : Nat := c.2.2.2.2.1
@[irreducible] noncomputable def s : Shared := c.2.2.2.2.2.1
@[irreducible] noncomputable def p : Program := c.2.2.2.2.2.2.1
@[irreducible] noncomputable def loose : List Str := c.2.2.2.2.2.2.2.1
@[irreducible] noncomputable def mean : ExcName → Option Value := c.2.2.2.2.2.2.2.2.1
@[irreducible] noncomputable def mg : Str → Option Value := c.2.2.2.2.2.2.2.2.2.1
@[irreducible] noncomputable def mb : Str → Option Value := c.2.2.2.2.2.2.2.2.2.2.1
@[irreducible] noncomputable def G0 : Heap := c.2.2.2.2.2.2.2.2.2.2.2.1
@[irreducible] noncomputable def G : Heap := c.2.2.2.2.2.2.2.2.2.2.2.2.1
@[irreducible] noncomputable def m : Str → Option Value := c.2.2.2.2.2.2.2.2.2.2.2.2.2.1
@[irreducible] noncomputable def Q : Flow → Shared → Prop := c.2.2.2.2.2.2.2.2.2.2.2.2.2.2.1
@[irreducible] noncomputable def E : Value → Shared → Prop := c.2.2.2.2.2.2.2.2.2.2.2.2.2.2.2.1
@[irreducible] noncomputable def D : Addr := c.2.2.2.2.2.2.2.2.2.2.2.2.2.2.2.2.1
@[irreducible] noncomputable def R : Addr := c.2.2.2.2.2.2.2.2.2.2.2.2.2.2.2.2.2.1
@[irreducible] noncomputable def N : Addr := c.2.2.2.2.2.2.2.2.2.2.2.2.2.2.2.2.2.2.1
@[irreducible] noncomputable def rs : List Value := c.2.2.2.2.2.2.2.2.2.2.2.2.2.2.2.2.2.2.2.1
@[irreducible] noncomputable def ys : List Value := c.2.2.2.2.2.2.2.2.2.2.2.2.2.2.2.2.2.2.2.2.1
@[irreducible] noncomputable def ps : List (Int × Int) := c.2.2.2.2.2.2.2.2.2.2.2.2.2.2.2.2.2.2.2.2.2.1
@[irreducible] noncomputable def c0 : Nat := c.2.2.2.2.2.2.2.2.2.2.2.2.2.2.2.2.2.2.2.2.2.2.1
@[irreducible] noncomputable def c1 : Nat := c.2.2.2.2.2.2.2.2.2.2.2.2.2.2.2.2.2.2.2.2.2.2.2.1
@[irreducible] noncomputable def c2 : Nat := c.2.2.2.2.2.2.2.2.2.2.2.2.2.2.2.2.2.2.2.2.2.2.2.2.1
@[irreducible] noncomputable def c3 : Nat := c.2.2.2.2.2.2.2.2.2.2.2.2.2.2.2.2.2.2.2.2.2.2.2.2.2.1
@[irreducible] noncomputable def n : Nat := c.2.2.2.2.2.2.2.2.2.2.2.2.2.2.2.2.2.2.2.2.2.2.2.2.2.2.1
@[irreducible] noncomputable def bd : Nat := c.2.2.2.2.2.2.2.2.2.2.2.2.2.2.2.2.2.2.2.2.2.2.2.2.2.2.2.1
@[irreducible] noncomputable def rc : Nat := c.2.2.2.2.2.2.2.2.2.2.2.2.2.2.2.2.2.2.2.2.2.2.2.2.2.2.2.2.1
@[irreducible] noncomputable def pt : Array Value := c.2.2.2.2.2.2.2.2.2.2.2.2.2.2.2.2.2.2.2.2.2.2.2.2.2.2.2.2.2.1
@[irreducible] noncomputable def tr : Tok := c.2.2.2.2.2.2.2.2.2.2.2.2.2.2.2.2.2.2.2.2.2.2.2.2.2.2.2.2.2.2.1
@[irreducible] noncomputable def w0 : Tok := c.2.2.2.2.2.2.2.2.2.2.2.2.2.2.2.2.2.2.2.2.2.2.2.2.2.2.2.2.2.2.2.1
@[irreducible] noncomputable def w1 : Tok := c.2.2.2.2.2.2.2.2.2.2.2.2.2.2.2.2.2.2.2.2.2.2.2.2.2.2.2.2.2.2.2.2.1
@[irreducible] noncomputable def w2 : Tok := c.2.2.2.2.2.2.2.2.2.2.2.2.2.2.2.2.2.2.2.2.2.2.2.2.2.2.2.2.2.2.2.2.2.1
@[irreducible] noncomputable def w3 : Tok := c.2.2.2.2.2.2.2.2.2.2.2.2.2.2.2.2.2.2.2.2.2.2.2.2.2.2.2.2.2.2.2.2.2.2.1
@[irreducible] noncomputable def tb : Tok := c.2.2.2.2.2.2.2.2.2.2.2.2.2.2.2.2.2.2.2.2.2.2.2.2.2.2.2.2.2.2.2.2.2.2.2.1
@[irreducible] noncomputable def K : Addr := c.2.2.2.2.2.2.2.2.2.2.2.2.2.2.2.2.2.2.2.2.2.2.2.2.2.2.2.2.2.2.2.2.2.2.2.2.1
@[irreducible] noncomputable def kv : List Value := c.2.2.2.2.2.2.2.2.2.2.2.2.2.2.2.2.2.2.2.2.2.2.2.2.2.2.2.2.2.2.2.2.2.2.2.2.2.1
@[irreducible] noncomputable def cs : List Int := c.2.2.2.2.2.2.2.2.2.2.2.2.2.2.2.2.2.2.2.2.2.2.2.2.2.2.2.2.2.2.2.2.2.2.2.2.2.2
set_option maxHeartbeats 2000000 in
theorem spec_c : Say w dA fA gA uA s p loose mean mg mb G0 G m Q E D R N rs ys ps c0 c1 c2 c3 n bd rc pt tr w0 w1 w2 w3 tb K kv cs := by
  intro body scope hfn X T C1 C2 hroom hu S n1 hD hc3 n2 hR hP hfin n3 hbd n4 hN hrows n6 hrc n7 hK hKi hcl hcs hq
  have hrl : rs.length = ps.length := hP.1
  have hps5 := hfin.1
  have hbd1 : 1 ≤ bd ∧ bd ≤ 32 := by
    rw [← hbd]
    rcases (by lia : ps.length = 0 ∨ ps.length = 1 ∨ ps.length = 2 ∨ ps.length = 3 ∨ ps.length = 4 ∨ ps.length = 5) with e | e | e | e | e | e <;> rw [e] <;> decide
  have hfn0 := hfn
  obtain ⟨oc, od, osl, name, qual, params, dV, kV, doc, pm, cdv, ct, an, hfn⟩ := hfn
  refine' fn_same hfn ?key ?_
  case key => k_is
  intro e1 e2
  subst e1 e2
  clear hfn
  simp only [List.drop_succ_cons, List.drop_zero]
  have hkl : kv.length = cs.length := hKi.length
  have hc3' := hc3
  refine wpAny_execs_cons ?_
  refine FmA S rfl rfl rfl (BlockOk.of (by decide +kernel) (List.forall_mem_cons.mpr ⟨⟨rfl, rfl⟩, fun _ h => nomatch h⟩)) rfl rfl rfl ?_
  refine LCr (n := kv.length) (B := BList "column" kv) ["column"] (fun i => (ps.map fun q => (cs.getD i 0) + (q.1 - (cs.getD i 0)) % q.2).map PyData.int) S.s.v (by rw [sizeLine_eq]; lia) BList.tg (List.forall_mem_cons.mpr ⟨.inr rfl, fun _ h => nomatch h⟩) (by decide) ?_ (fun C i s₃ bs hC hi hb k3 V3 bare => ?_) (fun Z zv h' gs tk hrowsZ hZ hDL k' V' bare0 => ⟨k', fun G6 h6 tk6 m6 S6 e6 f6 g6 new6 => ?_⟩)
  · k_steps
    refine Stop.go ?_
    exact src_list rfl (Sub.refl _) (Nat.le_refl _) (hK.lst.at fun o e => S.s.sub _ _ e) _ _
  · obtain ⟨v, rfl, hv⟩ := hb
    obtain ⟨c, tc, rfl, hc⟩ := ints_at hKi hv
    obtain ⟨cl1, cl2⟩ := hcs c (List.mem_of_getElem? hc)
    rw [show cs.getD i 0 = c by rw [List.getD_eq_getElem?_getD, hc]; rfl]
    obtain ⟨nc, rfl⟩ : ∃ nc : Nat, c = ((nc + 1 : Nat) : Int) := ⟨(c - 1).toNat, by lia⟩
    obtain ⟨M, V, e1, e2⟩ := V3
    have q1 : M "column" = some (.int ((nc + 1 : Nat) : Int) tc) := e1 _ (.head _)
    have q2 := (e2 "rulers" rfl).trans n2
    have B : Bas G0 s₃.heap := S.kb.trans k3
    have BG : Sub G s₃.heap := S.s.sub.trans k3
    clear S
    refine LC (m := M) rfl rfl (BlockOk.of (by decide +kernel) (List.forall_mem_cons.mpr ⟨⟨rfl, rfl⟩, fun _ h => nomatch h⟩)) ?_
    refine LCc (n := ps.length) (B := BPairs "first" "step" ps) ["first", "step"] (fun j => .int (((nc + 1 : Nat) : Int) + ((ps.getD j (0, 0)).1 - ((nc + 1 : Nat) : Int)) % (ps.getD j (0, 0)).2)) V (by rw [sizeLine_eq]; lia) BPairs.tg (List.forall_mem_cons.mpr ⟨.inl rfl, List.forall_mem_cons.mpr ⟨.inl rfl, fun _ h => nomatch h⟩⟩) (by decide) ?_ (fun C2 j s₄ bs2 hC2 hj hb2 k4 V4 bare4 => ?_) (fun N3 us h3 gs3 tk3 hc3 hN3 hDL3 k5 V5 bare5 => ?_)
    · k_steps
      refine Stop.go ?_
      exact src_pairs rfl (Sub.refl _) (Nat.le_refl _) (hR.lst.at fun o e => BG _ _ e) (hP.keeps BG) _ _ _ _ _ _
    · obtain ⟨_, _, rfl, pr, t, u, hpj, rfl, rfl⟩ := hb2
      obtain ⟨M4, V, e3, e4⟩ := V4
      obtain ⟨r1, r2, r3⟩ := hfin.2 pr (List.mem_of_getElem? hpj)
      rw [show ps.getD j (0, 0) = pr by rw [List.getD_eq_getElem?_getD, hpj]; rfl]
      obtain ⟨x, y⟩ := pr
      dsimp only at r1 r2 r3 e3 ⊢
      obtain ⟨xn, rfl⟩ := Int.eq_ofNat_of_zero_le (show 0 ≤ x by lia)
      obtain ⟨yn, rfl⟩ := Int.eq_ofNat_of_zero_le (show 0 ≤ y by lia)
      have q3 : M4 "first" = some (.int (xn : Int) t) := e3 _ (.head _)
      have q4 : M4 "step" = some (.int (yn : Int) u) := e3 _ (.tail _ (.head _))
      have q1 := (e4 "column" rfl).trans q1
      have B : Bas G0 s₄.heap := B.trans k4
      refine wpAny_mono (Q := fun v s' => Stop (Post s₄ (fun z _ => Carried z (.int (((nc + 1 : Nat) : Int) + ((xn : Int) - ((nc + 1 : Nat) : Int)) % (yn : Int)))) v s')) ?_ (fun _ _ x => x) (fun _ _ x => x)
      k_steps
      · exact X.keeps B
      refine Stop.go ?_
      refine stop_spec X T B rfl (by show dA + 20 < _; lia) (by lia) (by lia) (by lia) (by lia) fun t9 h9 tk9 k9 => ?_
      have V9 := V.keeps k9
      have B9 := Sub.trans B k9
      k_steps
      rw [stop_eq (by lia) (by lia)]
      exact Stop.go ⟨_, _, _, rfl, ⟨k9, id⟩, .int _ _⟩
    · refine ⟨_, _, _, rfl, ⟨k5, bare5⟩, N3, us, rfl, hN3, hDL3, ?_⟩
      rw [List.map_map, ← map_getD (d := ((0 : Int), (0 : Int))) ps]
      exact hc3
  · dsimp only at hZ k' bare0 S6 new6 ⊢
    have hrowsZ := hrowsZ G6 new6
    have LZ : DL G6 Z zv := hDL.at fun o e => new6 _ _ hZ e
    rw [hkl, map_getD cs fun c => (ps.map fun q => c + (q.1 - c) % q.2).map PyData.int] at hrowsZ
    have n1 := (f6 "cells" (by decide)).trans n1
    have n2 := (f6 "rulers" (by decide)).trans n2
    have n3 := (f6 "bound" (by decide)).trans n3
    have n4 := (f6 "near" (by decide)).trans n4
    have n6 := (f6 "reach" (by decide)).trans n6
    have n7 := (f6 "columns" (by decide)).trans n7
    have hR := hR.at fun o e => g6 _ _ e
    have hP := hP.keeps g6
    have hK := hK.at fun o e => g6 _ _ e
    clear S f6 hDL V' new6
    k_steps
    refine Stop.go ?_
    refine LC (m := m6) rfl rfl (BlockOk.of (by decide +kernel) (List.forall_mem_cons.mpr ⟨⟨rfl, rfl⟩, fun _ h => nomatch h⟩)) ?_
    refine LCr (n := kv.length) (B := BList "column" kv) ["column"] (fun i => (ps.map fun q => (cs.getD i 0) + (q.1 - (cs.getD i 0)) % q.2).map PyData.int) S6.s.v (by rw [sizeLine_eq]; lia) BList.tg (List.forall_mem_cons.mpr ⟨.inr rfl, fun _ h => nomatch h⟩) (by decide) ?_ (fun C i s₃ bs hC hi hb k3 V3 bare => ?_) (fun Y yv h7 gs7 tk7 hrowsY hY hDLY k7 V7 bare7 => ?_)
    · k_steps
      refine Stop.go ?_
      exact src_list rfl (Sub.refl _) (Nat.le_refl _) (hK.lst.at fun o e => S6.s.sub _ _ e) _ _
    · obtain ⟨v, rfl, hv⟩ := hb
      obtain ⟨c, tc, rfl, hc⟩ := ints_at hKi hv
      obtain ⟨cl1, cl2⟩ := hcs c (List.mem_of_getElem? hc)
      rw [show cs.getD i 0 = c by rw [List.getD_eq_getElem?_getD, hc]; rfl]
      obtain ⟨M, V, e1, e2⟩ := V3
      have q1 : M "column" = some (.int c tc) := e1 _ (.head _)
      have q2 := (e2 "rulers" rfl).trans n2
      have B : Bas G0 s₃.heap := S6.kb.trans k3
      have BG : Sub G6 s₃.heap := S6.s.sub.trans k3
      clear S6
      refine LC (m := M) rfl rfl (BlockOk.of (by decide +kernel) (List.forall_mem_cons.mpr ⟨⟨rfl, rfl⟩, fun _ h => nomatch h⟩)) ?_
      refine LCc (n := ps.length) (B := BPairs "first" "step" ps) ["first", "step"] (fun j => .int (c + ((ps.getD j (0, 0)).1 - c) % (ps.getD j (0, 0)).2)) V (by rw [sizeLine_eq]; lia) BPairs.tg (List.forall_mem_cons.mpr ⟨.inl rfl, List.forall_mem_cons.mpr ⟨.inl rfl, fun _ h => nomatch h⟩⟩) (by decide) ?_ (fun C2 j s₄ bs2 hC2 hj hb2 k4 V4 bare4 => ?_) (fun N3 us h3 gs3 tk3 hc3 hN3 hDL3 k5 V5 bare5 => ?_)
      · k_steps
        refine Stop.go ?_
        exact src_pairs rfl (Sub.refl _) (Nat.le_refl _) (hR.lst.at fun o e => BG _ _ e) (hP.keeps BG) _ _ _ _ _ _
      · obtain ⟨_, _, rfl, pr, t, u, hpj, rfl, rfl⟩ := hb2
        obtain ⟨M4, V, e3, e4⟩ := V4
        obtain ⟨r1, r2, r3⟩ := hfin.2 pr (List.mem_of_getElem? hpj)
        rw [show ps.getD j (0, 0) = pr by rw [List.getD_eq_getElem?_getD, hpj]; rfl]
        have q3 : M4 "first" = some (.int pr.1 t) := e3 _ (.head _)
        have q4 : M4 "step" = some (.int pr.2 u) := e3 _ (.tail _ (.head _))
        have q1 := (e4 "column" rfl).trans q1
        have B : Bas G0 s₄.heap := B.trans k4
        refine wpAny_mono (Q := fun v s' => Stop (Post s₄ (fun z _ => Carried z (.int (c + (pr.1 - c) % pr.2))) v s')) ?_ (fun _ _ x => x) (fun _ _ x => x)
        k_steps
        exact Stop.go ⟨_, _, _, rfl, ⟨Sub.refl _, id⟩, .int _ _⟩
      · refine ⟨_, _, _, rfl, ⟨k5, bare5⟩, N3, us, rfl, hN3, hDL3, ?_⟩
        rw [List.map_map, ← map_getD (d := ((0 : Int), (0 : Int))) ps]
        exact hc3
    · dsimp only at hY k7 bare7 ⊢
      obtain ⟨G7, S7, g7, new7⟩ := S6.up (h' := h7) k7
      have hrowsY := hrowsY G7 new7
      rw [hkl, map_getD cs fun c => (ps.map fun q => c + (q.1 - c) % q.2).map PyData.int] at hrowsY
      clear S6 V7
      k_steps
      refine Stop.go ?_
      refine rows_ne ((LZ.at fun o e => g7 _ _ e).at fun o e => S7.s.sub _ _ e) ((hrowsZ.keeps g7).keeps S7.s.sub) hDLY (hrowsY.keeps S7.s.sub) (fun ds hds d hd => ?_) (by show uA + 64 < _; lia) ?_
      · obtain ⟨q, _, rfl⟩ := List.mem_map.mp hds
        exact flat_ints _ d hd
      have n1 := n1
      have hND : DL G7 N ys := (hN.at fun o e => g6 _ _ e).at fun o e => g7 _ _ e
      have hrN := (hrows.keeps g6).keeps g7
      have hK := hK.at fun o e => g7 _ _ e
      have hyl : ys.length = ps.length := by simpa using hrN.1
      have hR6 := hR
      have hP6 := hP
      clear hrowsY hDLY hR hP
      k_steps
      refine Stop.go ?_
      refine FmA S7 rfl rfl rfl (BlockOk.of (by decide +kernel) (List.forall_mem_cons.mpr ⟨⟨rfl, rfl⟩, fun _ h => nomatch h⟩)) rfl rfl rfl ?_
      refine LCr (n := kv.length) (B := BList "column" kv) ["column"] (fun i => (ps.map fun q => decide (((cs.getD i 0) - q.1) % q.2 = 0)).map PyData.bool) S7.s.v (by rw [sizeLine_eq]; lia) BList.tg (List.forall_mem_cons.mpr ⟨.inr rfl, fun _ h => nomatch h⟩) (by decide) ?_ (fun C i s₃ bs hC hi hb k3 V3 bare => ?_) (fun U uv h8 gs8 tk8 hrowsU hU hDLU k8 V8 bare8 => ⟨k8, fun G9 h9 tk9 m9 S9 e9 f9 g9 new9 => ?_⟩)
      · k_steps
        refine Stop.go ?_
        exact src_list rfl (Sub.refl _) (Nat.le_refl _) (hK.lst.at fun o e => S7.s.sub _ _ e) _ _
      · obtain ⟨v, rfl, hv⟩ := hb
        obtain ⟨c, tc, rfl, hc⟩ := ints_at hKi hv
        obtain ⟨cl1, cl2⟩ := hcs c (List.mem_of_getElem? hc)
        rw [show cs.getD i 0 = c by rw [List.getD_eq_getElem?_getD, hc]; rfl]
        obtain ⟨M, V, e1, e2⟩ := V3
        have q1 : M "column" = some (.int c tc) := e1 _ (.head _)
        have q2 := (e2 "near" rfl).trans n4
        have B : Bas G0 s₃.heap := S7.kb.trans k3
        have BG : Sub G7 s₃.heap := S7.s.sub.trans k3
        clear S7
        refine LC (m := M) rfl rfl (BlockOk.of (by decide +kernel) (List.forall_mem_cons.mpr ⟨⟨rfl, rfl⟩, fun _ h => nomatch h⟩)) ?_
        refine LCc (n := ys.length) (B := BList "marks" ys) ["marks"] (fun j => .bool (decide ((c - (ps.getD j (0, 0)).1) % (ps.getD j (0, 0)).2 = 0))) V (by rw [sizeLine_eq]; lia) BList.tg (List.forall_mem_cons.mpr ⟨.inl rfl, fun _ h => nomatch h⟩) (by decide) ?_ (fun C2 j s₄ bs2 hC2 hj hb2 k4 V4 bare4 => ?_) (fun N3 us h3 gs3 tk3 hc3 hN3 hDL3 k5 V5 bare5 => ?_)
        · k_steps
          refine Stop.go ?_
          exact src_list rfl (Sub.refl _) (Nat.le_refl _) (hND.lst.at fun o e => BG _ _ e) _ _
        · obtain ⟨v, rfl, hv⟩ := hb2
          obtain ⟨mb', ws, ds, rfl, hwD, hds, hwc⟩ := hrN.2 j v hv
          rw [List.getElem?_map] at hds
          obtain ⟨pr, hpj, rfl⟩ := Option.map_eq_some_iff.mp hds
          obtain ⟨r1, r2, r3⟩ := hfin.2 pr (List.mem_of_getElem? hpj)
          rw [show ps.getD j (0, 0) = pr by rw [List.getD_eq_getElem?_getD, hpj]; rfl]
          obtain ⟨M4, V, e3, e4⟩ := V4
          have q3 : M4 "marks" = some (.ref mb') := e3 _ (.head _)
          have q1 := (e4 "column" rfl).trans q1
          have B : Bas G0 s₄.heap := B.trans k4
          have hI := ints_of_carried hwc
          have hml := mks_len_le (f := pr.1.toNat) (k := pr.2.toNat) (b := bd) (by lia)
          have hwl : ws.length = (mksOf pr.1.toNat pr.2.toNat bd).length := hI.length
          have hms := mks_sorted (f := pr.1.toNat) (k := pr.2.toNat) (b := bd) (by lia)
          have hw4 := (hwD.at fun o e => BG _ _ e).at fun o e => k4 _ _ e
          refine wpAny_mono (Q := fun v s' => Stop (Post s₄ (fun z _ => Carried z (.bool (decide ((c - pr.1) % pr.2 = 0)))) v s')) ?_ (fun _ _ x => x) (fun _ _ x => x)
          k_steps
          · exact X.keeps B
          refine Stop.go ?_
          refine bl_spec X T B rfl (by show dA + 5 < _; lia) hw4.lst hI (by rw [List.size_toArray]; lia) (Steps.of hms fun x y h1 h2 => by simp only [decide_eq_true_eq] at h2 ⊢; lia) fun t5 h5 tk5 k5 => ?_
          have V5 := V.keeps k5
          have B5 := Sub.trans B k5
          have hw5 := hw4.at fun o e => k5 _ _ e
          clear V
          k_steps
          · exact X.keeps B5
          refine Stop.go ?_
          refine br_spec X T B5 rfl (by show dA + 5 < _; lia) hw5.lst hI (by rw [List.size_toArray]; lia) (Steps.of hms fun x y h1 h2 => by simp only [decide_eq_true_eq] at h2 ⊢; lia) fun t6 h6 tk6 k6 => ?_
          k_steps
          rw [bis_lt, bis_mks r1 r2 cl1 cl2]
          exact Stop.go ⟨_, _, _, rfl, ⟨Sub.trans k5 k6, id⟩, .bool _⟩
        · refine ⟨_, _, _, rfl, ⟨k5, bare5⟩, N3, us, rfl, hN3, hDL3, ?_⟩
          rw [hyl] at hc3
          rw [List.map_map, ← map_getD (d := ((0 : Int), (0 : Int))) ps]
          exact hc3
      · dsimp only at hU k8 bare8 S9 new9 ⊢
        have hrowsU := hrowsU G9 new9
        rw [hkl, map_getD cs fun c => (ps.map fun q => decide ((c - q.1) % q.2 = 0)).map PyData.bool] at hrowsU
        have g19 : Sub G6 G9 := g7.trans g9
        have g09 : Sub G G9 := g6.trans g19
        refine law6 (n := n) hfn0 X T C1 C2 rfl ?hroom ?hu S9 ((f9 "cells" (by decide)).trans n1) (hD.at fun o e => g09 _ _ e) hc3' ((f9 "rulers" (by decide)).trans n2) (hR6.at fun o e => g19 _ _ e) (hP6.keeps g19) hfin ((f9 "bound" (by decide)).trans n3) hbd
          ((f9 "reach" (by decide)).trans n6) hrc ((f9 "columns" (by decide)).trans n7) (hK.at fun o e => g9 _ _ e) hKi hcl hcs ((f9 "stops" (by decide)).trans e6) (LZ.at fun o e => g19 _ _ e) (hrowsZ.keeps g19) e9 (hDLU.at fun o e => new9 _ _ hU e) hrowsU (fun h' d tk gs k1 k2 k4 k5 => hq h' d tk gs k1 k2 k4 fun z => k5 (bare8 (bare7 (bare0 z))))
        case hroom => exact hroom
        case hu => exact hu
theorem all : Say c.1 c.2.1 c.2.2.1 c.2.2.2.1 c.2.2.2.2.1 c.2.2.2.2.2.1 c.2.2.2.2.2.2.1 c.2.2.2.2.2.2.2.1 c.2.2.2.2.2.2.2.2.1 c.2.2.2.2.2.2.2.2.2.1 c.2.2.2.2.2.2.2.2.2.2.1 c.2.2.2.2.2.2.2.2.2.2.2.1 c.2.2.2.2.2.2.2.2.2.2.2.2.1 c.2.2.2.2.2.2.2.2.2.2.2.2.2.1 c.2.2.2.2.2.2.2.2.2.2.2.2.2.2.1 c.2.2.2.2.2.2.2.2.2.2.2.2.2.2.2.1 c.2.2.2.2.2.2.2.2.2.2.2.2.2.2.2.2.1 c.2.2.2.2.2.2.2.2.2.2.2.2.2.2.2.2.2.1 c.2.2.2.2.2.2.2.2.2.2.2.2.2.2.2.2.2.2.1 c.2.2.2.2.2.2.2.2.2.2.2.2.2.2.2.2.2.2.2.1 c.2.2.2.2.2.2.2.2.2.2.2.2.2.2.2.2.2.2.2.2.1 c.2.2.2.2.2.2.2.2.2.2.2.2.2.2.2.2.2.2.2.2.2.1 c.2.2.2.2.2.2.2.2.2.2.2.2.2.2.2.2.2.2.2.2.2.2.1 c.2.2.2.2.2.2.2.2.2.2.2.2.2.2.2.2.2.2.2.2.2.2.2.1 c.2.2.2.2.2.2.2.2.2.2.2.2.2.2.2.2.2.2.2.2.2.2.2.2.1 c.2.2.2.2.2.2.2.2.2.2.2.2.2.2.2.2.2.2.2.2.2.2.2.2.2.1 c.2.2.2.2.2.2.2.2.2.2.2.2.2.2.2.2.2.2.2.2.2.2.2.2.2.2.1 c.2.2.2.2.2.2.2.2.2.2.2.2.2.2.2.2.2.2.2.2.2.2.2.2.2.2.2.1 c.2.2.2.2.2.2.2.2.2.2.2.2.2.2.2.2.2.2.2.2.2.2.2.2.2.2.2.2.1 c.2.2.2.2.2.2.2.2.2.2.2.2.2.2.2.2.2.2.2.2.2.2.2.2.2.2.2.2.2.1 c.2.2.2.2.2.2.2.2.2.2.2.2.2.2.2.2.2.2.2.2.2.2.2.2.2.2.2.2.2.2.1 c.2.2.2.2.2.2.2.2.2.2.2.2.2.2.2.2.2.2.2.2.2.2.2.2.2.2.2.2.2.2.2.1 c.2.2.2.2.2.2.2.2.2.2.2.2.2.2.2.2.2.2.2.2.2.2.2.2.2.2.2.2.2.2.2.2.1 c.2.2.2.2.2.2.2.2.2.2.2.2.2.2.2.2.2.2.2.2.2.2.2.2.2.2.2.2.2.2.2.2.2.1 c.2.2.2.2.2.2.2.2.2.2.2.2.2.2.2.2.2.2.2.2.2.2.2.2.2.2.2.2.2.2.2.2.2.2.1 c.2.2.2.2.2.2.2.2.2.2.2.2.2.2.2.2.2.2.2.2.2.2.2.2.2.2.2.2.2.2.2.2.2.2.2.1 c.2.2.2.2.2.2.2.2.2.2.2.2.2.2.2.2.2.2.2.2.2.2.2.2.2.2.2.2.2.2.2.2.2.2.2.2.1 c.2.2.2.2.2.2.2.2.2.2.2.2.2.2.2.2.2.2.2.2.2.2.2.2.2.2.2.2.2.2.2.2.2.2.2.2.2.1 c.2.2.2.2.2.2.2.2.2.2.2.2.2.2.2.2.2.2.2.2.2.2.2.2.2.2.2.2.2.2.2.2.2.2.2.2.2.2 := by
  have h := spec_c
  unfold w dA fA gA uA s p loose mean mg mb G0 G m Q E D R N rs ys ps c0 c1 c2 c3 n bd rc pt tr w0 w1 w2 w3 tb K kv cs at h
  exact h
end L5
theorem law5 {w : World} {A : Around} {s : Shared} {p : Program} {loose : List Str} {mean : ExcName → Option Value} {mg mb : Str → Option Value} {G0 G : Heap} {m : Str → Option Value}
    {Q : Flow → Shared → Prop} {E : Value → Shared → Prop} {D R N : Addr} {rs ys : List Value} {ps : List (Int × Int)} {c0 c1 c2 c3 n bd rc : Nat} {pt : Array Value} {tr : Tok} {w0 w1 w2 w3 tb : Tok} {body : List Stmt} {scope : Scope} (hfn : LawFn (hd.heap_1 w.params) body scope)
    (X : (hd.heap_1 w.params).In G0) (T : Top p loose mean mg mb G0) (C1 : CodeHd G0 167 163) (C2 : CodeHd G0 172 170)
    (hh : A.handled = none) (hroom : A.depth + 50 < recursionLimit) (hu : A.units + 350 < cLine)
    (S : Fm G0 (lawEnv scope n) [(163, tabObj #[]), (170, tabObj pt)] G s.heap m) (n1 : m "cells" = some (.ref D)) (hD : DL G D [Value.int (c0 : Int) w0, Value.int (c1 : Int) w1, Value.int (c2 : Int) w2, Value.int (c3 : Int) w3]) (hc3 : c3 < 1000000)
    (n2 : m "rulers" = some (.ref R)) (hR : DL G R rs) (hP : PairsAre G rs ps) (hfin : RFin ps) (n3 : m "bound" = some (.int (bd : Int) tb)) (hbd : 2 ^ ps.length = bd)
    (n4 : m "near" = some (.ref N)) (hN : DL G N ys) (hrows : RowsC G ys (ps.map fun q => (mksOf q.1.toNat q.2.toNat bd).map PyData.int)) (n6 : m "reach" = some (.int (rc : Int) tr)) (hrc : reachOf (rowOf ps bd) = rc) {K : Addr} {kv : List Value} {cs : List Int} (n7 : m "columns" = some (.ref K)) (hK : DL G K kv) (hKi : IntsAre kv cs) (hcl : cs.length ≤ 2) (hcs : ∀ c ∈ cs, 1 ≤ c ∧ c ≤ (bd : Int))
    (hq : ∀ h' d tk gs, Sub G0 h' → (∃ pt, h'.get? 163 = some (tabObj pt)) → (∃ pt, h'.get? 170 = some (tabObj pt)) → (AllBare s.gens → AllBare gs) → Q (.ret (.bool true)) { s with heap := h', drawn := d, toks := tk, gens := gs }) :
    wpAny (model PG w) A (execs (body.drop 10) (lawEnv scope n)) Q E s := by
  obtain ⟨hA, dA, fA, gA, uA⟩ := A
  dsimp only at hh
  subst hh
  exact of_pick L5.ne (fun v => L5.Say v.1 v.2.1 v.2.2.1 v.2.2.2.1 v.2.2.2.2.1 v.2.2.2.2.2.1 v.2.2.2.2.2.2.1 v.2.2.2.2.2.2.2.1 v.2.2.2.2.2.2.2.2.1 v.2.2.2.2.2.2.2.2.2.1 v.2.2.2.2.2.2.2.2.2.2.1 v.2.2.2.2.2.2.2.2.2.2.2.1 v.2.2.2.2.2.2.2.2.2.2.2.2.1 v.2.2.2.2.2.2.2.2.2.2.2.2.2.1 v.2.2.2.2.2.2.2.2.2.2.2.2.2.2.1 v.2.2.2.2.2.2.2.2.2.2.2.2.2.2.2.1 v.2.2.2.2.2.2.2.2.2.2.2.2.2.2.2.2.1 v.2.2.2.2.2.2.2.2.2.2.2.2.2.2.2.2.2.1 v.2.2.2.2.2.2.2.2.2.2.2.2.2.2.2.2.2.2.1 v.2.2.2.2.2.2.2.2.2.2.2.2.2.2.2.2.2.2.2.1 v.2.2.2.2.2.2.2.2.2.2.2.2.2.2.2.2.2.2.2.2.1 v.2.2.2.2.2.2.2.2.2.2.2.2.2.2.2.2.2.2.2.2.2.1 v.2.2.2.2.2.2.2.2.2.2.2.2.2.2.2.2.2.2.2.2.2.2.1 v.2.2.2.2.2.2.2.2.2.2.2.2.2.2.2.2.2.2.2.2.2.2.2.1 v.2.2.2.2.2.2.2.2.2.2.2.2.2.2.2.2.2.2.2.2.2.2.2.2.1 v.2.2.2.2.2.2.2.2.2.2.2.2.2.2.2.2.2.2.2.2.2.2.2.2.2.1 v.2.2.2.2.2.2.2.2.2.2.2.2.2.2.2.2.2.2.2.2.2.2.2.2.2.2.1 v.2.2.2.2.2.2.2.2.2.2.2.2.2.2.2.2.2.2.2.2.2.2.2.2.2.2.2.1 v.2.2.2.2.2.2.2.2.2.2.2.2.2.2.2.2.2.2.2.2.2.2.2.2.2.2.2.2.1 v.2.2.2.2.2.2.2.2.2.2.2.2.2.2.2.2.2.2.2.2.2.2.2.2.2.2.2.2.2.1 v.2.2.2.2.2.2.2.2.2.2.2.2.2.2.2.2.2.2.2.2.2.2.2.2.2.2.2.2.2.2.1 v.2.2.2.2.2.2.2.2.2.2.2.2.2.2.2.2.2.2.2.2.2.2.2.2.2.2.2.2.2.2.2.1 v.2.2.2.2.2.2.2.2.2.2.2.2.2.2.2.2.2.2.2.2.2.2.2.2.2.2.2.2.2.2.2.2.1 v.2.2.2.2.2.2.2.2.2.2.2.2.2.2.2.2.2.2.2.2.2.2.2.2.2.2.2.2.2.2.2.2.2.1 v.2.2.2.2.2.2.2.2.2.2.2.2.2.2.2.2.2.2.2.2.2.2.2.2.2.2.2.2.2.2.2.2.2.2.1 v.2.2.2.2.2.2.2.2.2.2.2.2.2.2.2.2.2.2.2.2.2.2.2.2.2.2.2.2.2.2.2.2.2.2.2.1 v.2.2.2.2.2.2.2.2.2.2.2.2.2.2.2.2.2.2.2.2.2.2.2.2.2.2.2.2.2.2.2.2.2.2.2.2.1 v.2.2.2.2.2.2.2.2.2.2.2.2.2.2.2.2.2.2.2.2.2.2.2.2.2.2.2.2.2.2.2.2.2.2.2.2.2.1 v.2.2.2.2.2.2.2.2.2.2.2.2.2.2.2.2.2.2.2.2.2.2.2.2.2.2.2.2.2.2.2.2.2.2.2.2.2.2) L5.all (w, dA, fA, gA, uA, s, p, loose, mean, mg, mb, G0, G, m, Q, E, D, R, N, rs, ys, ps, c0, c1, c2, c3, n, bd, rc, pt, tr, w0, w1, w2, w3, tb, K, kv, cs) body scope hfn X T C1 C2 hroom hu S n1 hD hc3 n2 hR hP hfin n3 hbd n4 hN hrows n6 hrc n7 hK hKi hcl hcs hq
end RS
end PartU7

theorem RS.forgetU6 {prog : PySem.Program} {w : PySem.World} {A : PySem.Around} {env : PySem.Env} {Q : PySem.Flow → PySem.Shared → Prop} {E : PySem.Value → PySem.Shared → Prop} {s : PySem.Shared}
    (h : PySem.wpAny (PySem.model prog w) A (PySem.execs [] env) Q E s) : PySem.wpAny (PySem.model prog w) A (PySem.execs [] env) Q E s := by
  first | (walk1; fail "no") | skip
  w_top off
  exact h

section PartU6
open PySem PySem.W PyProof.Rows PySem.Calls
set_option Elab.async false
set_option maxRecDepth 100000
namespace RS
theorem fillU6 : (fun (_ : Params → Frag) (_ : OpenLaw) => True) hd.heap_1 PySem.Challenge.rw_rs0192_01 := by
  k_fill
  trivial
namespace L4
abbrev V : Type := (World) × (Nat) × (Option (List Env)) × (Option (List Code)) × (Nat) × (Shared) × (Program) × (List Str) × (ExcName → Option Value) × (Str → Option Value) × (Str → Option Value) × (Heap) × (Heap) × (Str → Option Value) × (Flow → Shared → Prop) × (Value → Shared → Prop) × (Addr) × (Addr) × (Addr) × (List Value) × (List Value) × (List (Int × Int)) × (Nat) × (Nat) × (Nat) × (Nat) × (Nat) × (Nat) × (Nat) × (Array Value) × (Tok) × (Tok) × (Tok) × (Tok) × (Tok) × (Tok) × (Addr) × (List Value)
def Say (w : World) (dA : Nat) (fA : Option (List Env)) (gA : Option (List Code)) (uA : Nat) (s : Shared) (p : Program) (loose : List Str) (mean : ExcName → Option Value) (mg : Str → Option Value) (mb : Str → Option Value) (G0 : Heap) (G : Heap) (m : Str → Option Value) (Q : Flow → Shared → Prop) (E : Value → Shared → Prop) (D : Addr) (R : Addr) (N : Addr) (rs : List Value) (ys : List Value) (ps : List (Int × Int)) (c0 : Nat) (c1 : Nat) (c2 : Nat) (c3 : Nat) (n : Nat) (bd : Nat) (rc : Nat) (pt : Array Value) (tr : Tok) (w0 : Tok) (w1 : Tok) (w2 : Tok) (w3 : Tok) (tb : Tok) (W : Addr) (vr : List Value) : Prop := ∀ (body : List Stmt) (scope : Scope) (hfn : LawFn (hd.heap_1 w.params) body scope) (X : (hd.heap_1 w.params).In G0) (T : Top p loose mean mg mb G0) (C1 : CodeHd G0 167 163) (C2 : CodeHd G0 172 170) (hroom : dA + 50 < recursionLimit) (hu : uA + 350 < cLine) (S : Fm G0 (lawEnv scope n) [(163, tabObj #[]), (170, tabObj pt)] G s.heap m) (n1 : m "cells" = some (.ref D)) (hD : DL G D [Value.int (c0 : Int) w0, Value.int (c1 : Int) w1, Value.int (c2 : Int) w2, Value.int (c3 : Int) w3]) (hc3 : c3 < 1000000) (n2 : m "rulers" = some (.ref R)) (hR : DL G R rs) (hP : PairsAre G rs ps) (hfin : RFin ps) (n3 : m "bound" = some (.int (bd : Int) tb)) (hbd : 2 ^ ps.length = bd) (n4 : m "near" = some (.ref N)) (hN : DL G N ys) (hrows : RowsC G ys (ps.map fun q => (mksOf q.1.toNat q.2.toNat bd).map PyData.int)) (n5 : m "row" = some (.ref W)) (hW : DL G W vr) (hIr : IntsAre vr (rowOf ps bd)) (n6 : m "reach" = some (.int (rc : Int) tr)) (hrc : reachOf (rowOf ps bd) = rc) (hq : ∀ h' d tk gs, Sub G0 h' → (∃ pt, h'.get? 163 = some (tabObj pt)) → (∃ pt, h'.get? 170 = some (tabObj pt)) → (AllBare s.gens → AllBare gs) → Q (.ret (.bool true)) { s with heap := h', drawn := d, toks := tk, gens := gs }),
    wpAny (model PG w) (Around.mk none dA fA gA uA) (execs (body.drop 8) (lawEnv scope n)) Q E s
theorem ne : Nonempty V := ⟨((Classical.choice neW), 0, none, none, 0, {}, default, [], (fun _ => none), (fun _ => none), (fun _ => none), {}, {}, (fun _ => none), (fun _ _ => True), (fun _ _ => True), 0, 0, 0, [], [], [], 0, 0, 0, 0, 0, 0, 0, default, 0, 0, 0, 0, 0, 0, 0, [])⟩
noncomputable def c : V := pick ne fun v => Say v.1 v.2.1 v.2.2.1 v.2.2.2.1 v.2.2.2.2.1 v.2.2.2.2.2.1 v.2.2.2.2.2.2.1 v.2.2.2.2.2.2.2.1 v.2.2.2.2.2.2.2.2.1 v.2.2.2.2.2.2.2.2.2.1 v.2.2.2.2.2.2.2.2.2.2.1 v.2.2.2.2.2.2.2.2.2.2.2.1 v.2.2.2.2.2.2.2.2.2.2.2.2.1 v.2.2.2.2.2.2.2.2.2.2.2.2.2.1 v.2.2.2.2.2.2.2.2.2.2.2.2.2.2.1 v.2.2.2.2.2.2.2.2.2.2.2.2.2.2.2.1 v.2.2.2.2.2.2.2.2.2.2.2.2.2.2.2.2.1 v.2.2.2.2.2.2.2.2.2.2.2.2.2.2.2.2.2.1 v.2.2.2.2.2.2.2.2.2.2.2.2.2.2.2.2.2.2.1 v.2.2.2.2.2.2.2.2.2.2.2.2.2.2.2.2.2.2.2.1 v.2.2.2.2.2.2.2.2.2.2.2.2.2.2.2.2.2.2.2.2.1 v.2.2.2.2.2.2.2.2.2.2.2.2.2.2.2.2.2.2.2.2.2.1 v.2.2.2.2.2.2.2.2.2.2.2.2.2.2.2.2.2.2.2.2.2.2.1 v.2.2.2.2.2.2.2.2.2.2.2.2.2.2.2.2.2.2.2.2.2.2.2.1 v.2.2.2.2.2.2.2.2.2.2.2.2.2.2.2.2.2.2.2.2.2.2.2.2.1 v.2.2.2.2.2.2.2.2.2.2.2.2.2.2.2.2.2.2.2.2.2.2.2.2.2.1 v.2.2.2.2.2.2.2.2.2.2.2.2.2.2.2.2.2.2.2.2.2.2.2.2.2.2.1 v.2.2.2.2.2.2.2.2.2.2.2.2.2.2.2.2.2.2.2.2.2.2.2.2.2.2.2.1 v.2.2.2.2.2.2.2.2.2.2.2.2.2.2.2.2.2.2.2.2.2.2.2.2.2.2.2.2.1 v.2.2.2.2.2.2.2.2.2.2.2.2.2.2.2.2.2.2.2.2.2.2.2.2.2.2.2.2.2.1 v.2.2.2.2.2.2.2.2.2.2.2.2.2.2.2.2.2.2.2.2.2.2.2.2.2.2.2.2.2.2.1 v.2.2.2.2.2.2.2.2.2.2.2.2.2.2.2.2.2.2.2.2.2.2.2.2.2.2.2.2.2.2.2.1 v.2.2.2.2.2.2.2.2.2.2.2.2.2.2.2.2.2.2.2.2.2.2.2.2.2.2.2.2.2.2.2.2.1 v.2.2.2.2.2.2.2.2.2.2.2.2.2.2.2.2.2.2.2.2.2.2.2.2.2.2.2.2.2.2.2.2.2.1 v.2.2.2.2.2.2.2.2.2.2.2.2.2.2.2.2.2.2.2.2.2.2.2.2.2.2.2.2.2.2.2.2.2.2.1 v.2.2.2.2.2.2.2.2.2.2.2.2.2.2.2.2.2.2.2.2.2.2.2.2.2.2.2.2.2.2.2.2.2.2.2.1 v.2.2.2.2.2.2.2.2.2.2.2.2.2.2.2.2.2.2.2.2.2.2.2.2.2.2.2.2.2.2.2.2.2.2.2.2.1 v.2.2.2.2.2.2.2.2.2.2.2.2.2.2.2.2.2.2.2.2.2.2.2.2.2.2.2.2.2.2.2.2.2.2.2.2.2
@[irreducible] noncomputable def w : World := c.1
@[irreducible] noncomputable def dA : Nat := c.2.1
@[irreducible] noncomputable def fA : Option (List Env) := c.2.2.1
@[irreducible] noncomputable def gA : Option (List Code) := c.2.2.2.1
@[irreducible] noncomputable def uA : Nat := c.2.2.2.2.1
@[irreducible] noncomputable def s : Shared := c.2.2.2.2.2.1
@[irreducible] noncomputable def p : Program := c.2.2.2.2.2.2.1
@[irreducible] noncomputable def loose : List Str := c.2.2.2.2.2.2.2.1
@[irreducible] noncomputable def mean : ExcName → Option Value := c.2.2.2.2.2.2.2.2.1
@[irreducible] noncomputable def mg : Str → Option Value := c.2.2.2.2.2.2.2.2.2.1
@[irreducible] noncomputable def mb : Str → Option Value := c.2.2.2.2.2.2.2.2.2.2.1
@[irreducible] noncomputable def G0 : Heap := c.2.2.2.2.2.2.2.2.2.2.2.1
@[irreducible] noncomputable def G : Heap := c.2.2.2.2.2.2.2.2.2.2.2.2.1
@[irreducible] noncomputable def m : Str → Option Value := c.2.2.2.2.2.2.2.2.2.2.2.2.2.1
@[irreducible] noncomputable def Q : Flow → Shared → Prop := c.2.2.2.2.2.2.2.2.2.2.2.2.2.2.1
@[irreducible] noncomputable def E : Value → Shared → Prop := c.2.2.2.2.2.2.2.2.2.2.2.2.2.2.2.1
@[irreducible] noncomputable def D : Addr := c.2.2.2.2.2.2.2.2.2.2.2.2.2.2.2.2.1
@[irreducible] noncomputable def R : Addr := c.2.2.2.2.2.2.2.2.2.2.2.2.2.2.2.2.2.1
@[irreducible] noncomputable def N : Addr := c.2.2.2.2.2.2.2.2.2.2.2.2.2.2.2.2.2.2.1
@[irreducible] noncomputable def rs : List Value := c.2.2.2.2.2.2.2.2.2.2.2.2.2.2.2.2.2.2.2.1
@[irreducible] noncomputable def ys : List Value := c.2.2.2.2.2.2.2.2.2.2.2.2.2.2.2.2.2.2.2.2.1
@[irreducible] noncomputable def ps : List (Int × Int) := c.2.2.2.2.2.2.2.2.2.2.2.2.2.2.2.2.2.2.2.2.2.1
@[irreducible] noncomputable def c0 : Nat := c.2.2.2.2.2.2.2.2.2.2.2.2.2.2.2.2.2.2.2.2.2.2.1
@[irreducible] noncomputable def c1 : Nat := c.2.2.2.2.2.2.2.2.2.2.2.2.2.2.2.2.2.2.2.2.2.2.2.1
@[irreducible] noncomputable def c2 : Nat := c.2.2.2.2.2.2.2.2.2.2.2.2.2.2.2.2.2.2.2.2.2.2.2.2.1
@[irreducible] noncomputable def c3 : Nat := c.2.2.2.2.2.2.2.2.2.2.2.2.2.2.2.2.2.2.2.2.2.2.2.2.2.1
@[irreducible] noncomputable def n : Nat := c.2.2.2.2.2.2.2.2.2.2.2.2.2.2.2.2.2.2.2.2.2.2.2.2.2.2.1
@[irreducible] noncomputable def bd : Nat := c.2.2.2.2.2.2.2.2.2.2.2.2.2.2.2.2.2.2.2.2.2.2.2.2.2.2.2.1
@[irreducible] noncomputable def rc : Nat := c.2.2.2.2.2.2.2.2.2.2.2.2.2.2.2.2.2.2.2.2.2.2.2.2.2.2.2.2.1
@[irreducible] noncomputable def pt : Array Value := c.2.2.2.2.2.2.2.2.2.2.2.2.2.2.2.2.2.2.2.2.2.2.2.2.2.2.2.2.2.1
@[irreducible] noncomputable def tr : Tok := c.2.2.2.2.2.2.2.2.2.2.2.2.2.2.2.2.2.2.2.2.2.2.2.2.2.2.2.2.2.2.1
@[irreducible] noncomputable def w0 : Tok := c.2.2.2.2.2.2.2.2.2.2.2.2.2.2.2.2.2.2.2.2.2.2.2.2.2.2.2.2.2.2.2.1
@[irreducible] noncomputable def w1 : Tok := c.2.2.2.2.2.2.2.2.2.2.2.2.2.2.2.2.2.2.2.2.2.2.2.2.2.2.2.2.2.2.2.2.1
@[irreducible] noncomputable def w2 : Tok := c.2.2.2.2.2.2.2.2.2.2.2.2.2.2.2.2.2.2.2.2.2.2.2.2.2.2.2.2.2.2.2.2.2.1
@[irreducible] noncomputable def w3 : Tok := c.2.2.2.2.2.2.2.2.2.2.2.2.2.2.2.2.2.2.2.2.2.2.2.2.2.2.2.2.2.2.2.2.2.2.1
@[irreducible] noncomputable def tb : Tok := c.2.2.2.2.2.2.2.2.2.2.2.2.2.2.2.2.2.2.2.2.2.2.2.2.2.2.2.2.2.2.2.2.2.2.2.1
@[irreducible] noncomputable def W : Addr := c.2.2.2.2.2.2.2.2.2.2.2.2.2.2.2.2.2.2.2.2.2.2.2.2.2.2.2.2.2.2.2.2.2.2.2.2.1
@[irreducible] noncomputable def vr : List Value := c.2.2.2.2.2.2.2.2.2.2.2.2.2.2.2.2.2.2.2.2.2.2.2.2.2.2.2.2.2.2.2.2.2.2.2.2.2
set_option maxHeartbeats 2000000 in
theorem spec_c : Say w dA fA gA uA s p loose mean mg mb G0 G m Q E D R N rs ys ps c0 c1 c2 c3 n bd rc pt tr w0 w1 w2 w3 tb W vr := by
  intro body scope hfn X T C1 C2 hroom hu S n1 hD hc3 n2 hR hP hfin n3 hbd n4 hN hrows n5 hW hIr n6 hrc hq
  have hrl : rs.length = ps.length := hP.1
  have hps5 := hfin.1
  have hbd1 : 1 ≤ bd ∧ bd ≤ 32 := by
    rw [← hbd]
    rcases (by lia : ps.length = 0 ∨ ps.length = 1 ∨ ps.length = 2 ∨ ps.length = 3 ∨ ps.length = 4 ∨ ps.length = 5) with e | e | e | e | e | e <;> rw [e] <;> decide
  have hfn0 := hfn
  obtain ⟨oc, od, osl, name, qual, params, dV, kV, doc, pm, cdv, ct, an, hfn⟩ := hfn
  refine' fn_same hfn ?key ?_
  case key => k_is
  intro e1 e2
  subst e1 e2
  clear hfn
  simp only [List.drop_succ_cons, List.drop_zero]
  obtain ⟨rh1, rh2, rh3⟩ := reach_spec (row_sorted ps bd) row_pos
  rw [hrc] at rh1 rh2 rh3
  have hrw := row_len ps bd
  have hvr : vr.length = (rowOf ps bd).length := hIr.length
  k_steps
  refine Stop.go (sliceL (hW.lst.at fun o e => S.s.sub _ _ e) .none (.int _ _) (fun D1 h1 k1 hD1 L1 => ?_) (by rw [sizeLine_eq]; lia))
  rw [slicePick_upto'] at L1
  simp only [List.toList_toArray] at L1
  obtain ⟨G1, S1, g1, n1'⟩ := S.up k1
  have M1 : DL G1 D1 (vr.take rc) := L1.at fun o e => n1' _ _ hD1 e
  clear S
  k_steps
  refine Stop.go (Fm.range2 S1 fun r G2 h2 tk2 u2 S2 g2 hr2 _ => ?_)
  k_steps
  refine Stop.go ?_
  refine Fm.listRange (n := rc) rfl S2 (S2.s.sub _ _ hr2) (small_one (by lia) (by lia) (by lia) (by lia)) (by rw [rangeSize_one]; split <;> lia) (by lia) fun D3 G3 h3 ws tk3 S3 g3 L3 I3 _ => ?_
  clear S1 S2
  k_steps
  refine Stop.go ?_
  refine row_ne (ds := ((List.range rc).map fun j : Nat => 1 + (j : Int)).map PyData.int) ((M1.at fun o e => g3 _ _ (g2 _ _ e)).at fun o e => S3.s.sub _ _ e) (carried_of_ints (by rw [← rh2]; exact hIr.take rc)) (L3.at fun o e => S3.s.sub _ _ e) (carried_of_ints I3) (flat_ints _) (by show uA + 64 < _; lia) ?_
  k_steps
  refine Stop.go ?_
  have gA : Sub G G3 := g1.trans (g2.trans g3)
  refine in_list_ints ((hW.at fun o e => gA _ _ e).at fun o e => S3.s.sub _ _ e).lst hIr ?_
  rw [row_any hrc]
  k_steps
  refine Stop.go (minL rfl fun h4 tk4 t4 k4 => ?_)
  obtain ⟨G4, S4, g4, -⟩ := S3.up (h' := h4) k4
  clear S3
  have gB : Sub G G4 := gA.trans g4
  k_steps
  refine Stop.go ?_
  refine item_list (v := .int (c3 : Int) w3) (hD.lst.at fun o e => S4.s.sub _ _ (gB _ _ e)) (by decide) (by decide) rfl ?_
  k_steps
  refine Stop.go ?_
  refine Fm.lst S4 fun K G5 h5 S5 g5 L5 hK => ?_
  k_steps
  refine Stop.go ?_
  refine Fm.stL S5 rfl rfl rfl fun h6 tk6 m6 S6 e6 f6 => ?_
  have gg : Sub G G5 := gB.trans g5
  have hm1 := Int.emod_nonneg (c3 : Int) (b := (bd : Int)) (by lia)
  have hm2 := Int.emod_lt_of_pos (c3 : Int) (b := (bd : Int)) (by lia)
  refine law5 (n := n) (cs := [min ((rc : Int) + 1) bd, 1 + (c3 : Int) % bd]) hfn0 X T C1 C2 rfl ?hroom ?hu S6 ((f6 "cells" (by decide)).trans n1) (hD.at fun o e => gg _ _ e) hc3 ((f6 "rulers" (by decide)).trans n2) (hR.at fun o e => gg _ _ e) (hP.keeps gg) hfin ((f6 "bound" (by decide)).trans n3) hbd
    ((f6 "near" (by decide)).trans n4) (hN.at fun o e => gg _ _ e) (hrows.keeps gg) ((f6 "reach" (by decide)).trans n6) hrc e6 L5 (.cons _ _ (.cons _ _ .nil)) (by simp) (List.forall_mem_cons.mpr ⟨by lia, List.forall_mem_cons.mpr ⟨by lia, fun _ h => nomatch h⟩⟩) hq
  case hroom => exact hroom
  case hu => exact hu
theorem all : Say c.1 c.2.1 c.2.2.1 c.2.2.2.1 c.2.2.2.2.1 c.2.2.2.2.2.1 c.2.2.2.2.2.2.1 c.2.2.2.2.2.2.2.1 c.2.2.2.2.2.2.2.2.1 c.2.2.2.2.2.2.2.2.2.1 c.2.2.2.2.2.2.2.2.2.2.1 c.2.2.2.2.2.2.2.2.2.2.2.1 c.2.2.2.2.2.2.2.2.2.2.2.2.1 c.2.2.2.2.2.2.2.2.2.2.2.2.2.1 c.2.2.2.2.2.2.2.2.2.2.2.2.2.2.1 c.2.2.2.2.2.2.2.2.2.2.2.2.2.2.2.1 c.2.2.2.2.2.2.2.2.2.2.2.2.2.2.2.2.1 c.2.2.2.2.2.2.2.2.2.2.2.2.2.2.2.2.2.1 c.2.2.2.2.2.2.2.2.2.2.2.2.2.2.2.2.2.2.1 c.2.2.2.2.2.2.2.2.2.2.2.2.2.2.2.2.2.2.2.1 c.2.2.2.2.2.2.2.2.2.2.2.2.2.2.2.2.2.2.2.2.1 c.2.2.2.2.2.2.2.2.2.2.2.2.2.2.2.2.2.2.2.2.2.1 c.2.2.2.2.2.2.2.2.2.2.2.2.2.2.2.2.2.2.2.2.2.2.1 c.2.2.2.2.2.2.2.2.2.2.2.2.2.2.2.2.2.2.2.2.2.2.2.1 c.2.2.2.2.2.2.2.2.2.2.2.2.2.2.2.2.2.2.2.2.2.2.2.2.1 c.2.2.2.2.2.2.2.2.2.2.2.2.2.2.2.2.2.2.2.2.2.2.2.2.2.1 c.2.2.2.2.2.2.2.2.2.2.2.2.2.2.2.2.2.2.2.2.2.2.2.2.2.2.1 c.2.2.2.2.2.2.2.2.2.2.2.2.2.2.2.2.2.2.2.2.2.2.2.2.2.2.2.1 c.2.2.2.2.2.2.2.2.2.2.2.2.2.2.2.2.2.2.2.2.2.2.2.2.2.2.2.2.1 c.2.2.2.2.2.2.2.2.2.2.2.2.2.2.2.2.2.2.2.2.2.2.2.2.2.2.2.2.2.1 c.2.2.2.2.2.2.2.2.2.2.2.2.2.2.2.2.2.2.2.2.2.2.2.2.2.2.2.2.2.2.1 c.2.2.2.2.2.2.2.2.2.2.2.2.2.2.2.2.2.2.2.2.2.2.2.2.2.2.2.2.2.2.2.1 c.2.2.2.2.2.2.2.2.2.2.2.2.2.2.2.2.2.2.2.2.2.2.2.2.2.2.2.2.2.2.2.2.1 c.2.2.2.2.2.2.2.2.2.2.2.2.2.2.2.2.2.2.2.2.2.2.2.2.2.2.2.2.2.2.2.2.2.1 c.2.2.2.2.2.2.2.2.2.2.2.2.2.2.2.2.2.2.2.2.2.2.2.2.2.2.2.2.2.2.2.2.2.2.1 c.2.2.2.2.2.2.2.2.2.2.2.2.2.2.2.2.2.2.2.2.2.2.2.2.2.2.2.2.2.2.2.2.2.2.2.1 c.2.2.2.2.2.2.2.2.2.2.2.2.2.2.2.2.2.2.2.2.2.2.2.2.2.2.2.2.2.2.2.2.2.2.2.2.1 c.2.2.2.2.2.2.2.2.2.2.2.2.2.2.2.2.2.2.2.2.2.2.2.2.2.2.2.2.2.2.2.2.2.2.2.2.2 := by
  have h := spec_c
  unfold w dA fA gA uA s p loose mean mg mb G0 G m Q E D R N rs ys ps c0 c1 c2 c3 n bd rc pt tr w0 w1 w2 w3 tb W vr at h
  exact h
end L4
theorem law4 {w : World} {A : Around} {s : Shared} {p : Program} {loose : List Str} {mean : ExcName → Option Value} {mg mb : Str → Option Value} {G0 G : Heap} {m : Str → Option Value}
    {Q : Flow → Shared → Prop} {E : Value → Shared → Prop} {D R N : Addr} {rs ys : List Value} {ps : List (Int × Int)} {c0 c1 c2 c3 n bd rc : Nat} {pt : Array Value} {tr : Tok} {w0 w1 w2 w3 tb : Tok} {body : List Stmt} {scope : Scope} (hfn : LawFn (hd.heap_1 w.params) body scope)
    (X : (hd.heap_1 w.params).In G0) (T : Top p loose mean mg mb G0) (C1 : CodeHd G0 167 163) (C2 : CodeHd G0 172 170)
    (hh : A.handled = none) (hroom : A.depth + 50 < recursionLimit) (hu : A.units + 350 < cLine)
    (S : Fm G0 (lawEnv scope n) [(163, tabObj #[]), (170, tabObj pt)] G s.heap m) (n1 : m "cells" = some (.ref D)) (hD : DL G D [Value.int (c0 : Int) w0, Value.int (c1 : Int) w1, Value.int (c2 : Int) w2, Value.int (c3 : Int) w3]) (hc3 : c3 < 1000000)
    (n2 : m "rulers" = some (.ref R)) (hR : DL G R rs) (hP : PairsAre G rs ps) (hfin : RFin ps) (n3 : m "bound" = some (.int (bd : Int) tb)) (hbd : 2 ^ ps.length = bd)
    (n4 : m "near" = some (.ref N)) (hN : DL G N ys) (hrows : RowsC G ys (ps.map fun q => (mksOf q.1.toNat q.2.toNat bd).map PyData.int)) {W : Addr} {vr : List Value} (n5 : m "row" = some (.ref W)) (hW : DL G W vr) (hIr : IntsAre vr (rowOf ps bd)) (n6 : m "reach" = some (.int (rc : Int) tr)) (hrc : reachOf (rowOf ps bd) = rc)
    (hq : ∀ h' d tk gs, Sub G0 h' → (∃ pt, h'.get? 163 = some (tabObj pt)) → (∃ pt, h'.get? 170 = some (tabObj pt)) → (AllBare s.gens → AllBare gs) → Q (.ret (.bool true)) { s with heap := h', drawn := d, toks := tk, gens := gs }) :
    wpAny (model PG w) A (execs (body.drop 8) (lawEnv scope n)) Q E s := by
  obtain ⟨hA, dA, fA, gA, uA⟩ := A
  dsimp only at hh
  subst hh
  exact of_pick L4.ne (fun v => L4.Say v.1 v.2.1 v.2.2.1 v.2.2.2.1 v.2.2.2.2.1 v.2.2.2.2.2.1 v.2.2.2.2.2.2.1 v.2.2.2.2.2.2.2.1 v.2.2.2.2.2.2.2.2.1 v.2.2.2.2.2.2.2.2.2.1 v.2.2.2.2.2.2.2.2.2.2.1 v.2.2.2.2.2.2.2.2.2.2.2.1 v.2.2.2.2.2.2.2.2.2.2.2.2.1 v.2.2.2.2.2.2.2.2.2.2.2.2.2.1 v.2.2.2.2.2.2.2.2.2.2.2.2.2.2.1 v.2.2.2.2.2.2.2.2.2.2.2.2.2.2.2.1 v.2.2.2.2.2.2.2.2.2.2.2.2.2.2.2.2.1 v.2.2.2.2.2.2.2.2.2.2.2.2.2.2.2.2.2.1 v.2.2.2.2.2.2.2.2.2.2.2.2.2.2.2.2.2.2.1 v.2.2.2.2.2.2.2.2.2.2.2.2.2.2.2.2.2.2.2.1 v.2.2.2.2.2.2.2.2.2.2.2.2.2.2.2.2.2.2.2.2.1 v.2.2.2.2.2.2.2.2.2.2.2.2.2.2.2.2.2.2.2.2.2.1 v.2.2.2.2.2.2.2.2.2.2.2.2.2.2.2.2.2.2.2.2.2.2.1 v.2.2.2.2.2.2.2.2.2.2.2.2.2.2.2.2.2.2.2.2.2.2.2.1 v.2.2.2.2.2.2.2.2.2.2.2.2.2.2.2.2.2.2.2.2.2.2.2.2.1 v.2.2.2.2.2.2.2.2.2.2.2.2.2.2.2.2.2.2.2.2.2.2.2.2.2.1 v.2.2.2.2.2.2.2.2.2.2.2.2.2.2.2.2.2.2.2.2.2.2.2.2.2.2.1 v.2.2.2.2.2.2.2.2.2.2.2.2.2.2.2.2.2.2.2.2.2.2.2.2.2.2.2.1 v.2.2.2.2.2.2.2.2.2.2.2.2.2.2.2.2.2.2.2.2.2.2.2.2.2.2.2.2.1 v.2.2.2.2.2.2.2.2.2.2.2.2.2.2.2.2.2.2.2.2.2.2.2.2.2.2.2.2.2.1 v.2.2.2.2.2.2.2.2.2.2.2.2.2.2.2.2.2.2.2.2.2.2.2.2.2.2.2.2.2.2.1 v.2.2.2.2.2.2.2.2.2.2.2.2.2.2.2.2.2.2.2.2.2.2.2.2.2.2.2.2.2.2.2.1 v.2.2.2.2.2.2.2.2.2.2.2.2.2.2.2.2.2.2.2.2.2.2.2.2.2.2.2.2.2.2.2.2.1 v.2.2.2.2.2.2.2.2.2.2.2.2.2.2.2.2.2.2.2.2.2.2.2.2.2.2.2.2.2.2.2.2.2.1 v.2.2.2.2.2.2.2.2.2.2.2.2.2.2.2.2.2.2.2.2.2.2.2.2.2.2.2.2.2.2.2.2.2.2.1 v.2.2.2.2.2.2.2.2.2.2.2.2.2.2.2.2.2.2.2.2.2.2.2.2.2.2.2.2.2.2.2.2.2.2.2.1 v.2.2.2.2.2.2.2.2.2.2.2.2.2.2.2.2.2.2.2.2.2.2.2.2.2.2.2.2.2.2.2.2.2.2.2.2.1 v.2.2.2.2.2.2.2.2.2.2.2.2.2.2.2.2.2.2.2.2.2.2.2.2.2.2.2.2.2.2.2.2.2.2.2.2.2) L4.all (w, dA, fA, gA, uA, s, p, loose, mean, mg, mb, G0, G, m, Q, E, D, R, N, rs, ys, ps, c0, c1, c2, c3, n, bd, rc, pt, tr, w0, w1, w2, w3, tb, W, vr) body scope hfn X T C1 C2 hroom hu S n1 hD hc3 n2 hR hP hfin n3 hbd n4 hN hrows n5 hW hIr n6 hrc hq
end RS
end PartU6

theorem RS.forgetU5 {prog : PySem.Program} {w : PySem.World} {A : PySem.Around} {env : PySem.Env} {Q : PySem.Flow → PySem.Shared → Prop} {E : PySem.Value → PySem.Shared → Prop} {s : PySem.Shared}
    (h : PySem.wpAny (PySem.model prog w) A (PySem.execs [] env) Q E s) : PySem.wpAny (PySem.model prog w) A (PySem.execs [] env) Q E s := by
  first | (walk1; fail "no") | skip
  w_top off
  exact h

section PartU5
open PySem PySem.W PyProof.Rows PySem.Calls
set_option Elab.async false
set_option maxRecDepth 100000
namespace RS
theorem fillU5 : (fun (_ : Params → Frag) (_ : OpenLaw) => True) hd.heap_1 PySem.Challenge.rw_rs0192_01 := by
  k_fill
  trivial
namespace L3
abbrev V : Type := (World) × (Nat) × (Option (List Env)) × (Option (List Code)) × (Nat) × (Shared) × (Program) × (List Str) × (ExcName → Option Value) × (Str → Option Value) × (Str → Option Value) × (Heap) × (Heap) × (Str → Option Value) × (Flow → Shared → Prop) × (Value → Shared → Prop) × (Addr) × (Addr) × (Addr) × (List Value) × (List Value) × (List (Int × Int)) × (Nat) × (Nat) × (Nat) × (Nat) × (Nat) × (Nat) × (Tok) × (Tok) × (Tok) × (Tok) × (Tok) × (Addr) × (List Value)
def Say (w : World) (dA : Nat) (fA : Option (List Env)) (gA : Option (List Code)) (uA : Nat) (s : Shared) (p : Program) (loose : List Str) (mean : ExcName → Option Value) (mg : Str → Option Value) (mb : Str → Option Value) (G0 : Heap) (G : Heap) (m : Str → Option Value) (Q : Flow → Shared → Prop) (E : Value → Shared → Prop) (D : Addr) (R : Addr) (N : Addr) (rs : List Value) (ys : List Value) (ps : List (Int × Int)) (c0 : Nat) (c1 : Nat) (c2 : Nat) (c3 : Nat) (n : Nat) (bd : Nat) (w0 : Tok) (w1 : Tok) (w2 : Tok) (w3 : Tok) (tb : Tok) (W : Addr) (vr : List Value) : Prop := ∀ (body : List Stmt) (scope : Scope) (hfn : LawFn (hd.heap_1 w.params) body scope) (X : (hd.heap_1 w.params).In G0) (T : Top p loose mean mg mb G0) (C1 : CodeHd G0 167 163) (C2 : CodeHd G0 172 170) (hroom : dA + 50 < recursionLimit) (hu : uA + 350 < cLine) (S : Fm G0 (lawEnv scope n) [(163, tabObj #[]), (170, tabObj #[])] G s.heap m) (n1 : m "cells" = some (.ref D)) (hD : DL G D [Value.int (c0 : Int) w0, Value.int (c1 : Int) w1, Value.int (c2 : Int) w2, Value.int (c3 : Int) w3]) (hc3 : c3 < 1000000) (n2 : m "rulers" = some (.ref R)) (hR : DL G R rs) (hP : PairsAre G rs ps) (hfin : RFin ps) (n3 : m "bound" = some (.int (bd : Int) tb)) (hbd : 2 ^ ps.length = bd) (n4 : m "near" = some (.ref N)) (hN : DL G N ys) (hrows : RowsC G ys (ps.map fun q => (mksOf q.1.toNat q.2.toNat bd).map PyData.int)) (n5 : m "row" = some (.ref W)) (hW : DL G W vr) (hIr : IntsAre vr (rowOf ps bd)) (hq : ∀ h' d tk gs, Sub G0 h' → (∃ pt, h'.get? 163 = some (tabObj pt)) → (∃ pt, h'.get? 170 = some (tabObj pt)) → (AllBare s.gens → AllBare gs) → Q (.ret (.bool true)) { s with heap := h', drawn := d, toks := tk, gens := gs }),
    wpAny (model PG w) (Around.mk none dA fA gA uA) (execs (body.drop 6) (lawEnv scope n)) Q E s
theorem ne : Nonempty V := ⟨((Classical.choice neW), 0, none, none, 0, {}, default, [], (fun _ => none), (fun _ => none), (fun _ => none), {}, {}, (fun _ => none), (fun _ _ => True), (fun _ _ => True), 0, 0, 0, [], [], [], 0, 0, 0, 0, 0, 0, 0, 0, 0, 0, 0, 0, [])⟩
noncomputable def c : V := pick ne fun v => Say v.1 v.2.1 v.2.2.1 v.2.2.2.1 v.2.2.2.2.1 v.2.2.2.2.2.1 v.2.2.2.2.2.2.1 v.2.2.2.2.2.2.2.1 v.2.2.2.2.2.2.2.2.1 v.2.2.2.2.2.2.2.2.2.1 v.2.2.2.2.2.2.2.2.2.2.1 v.2.2.2.2.2.2.2.2.2.2.2.1 v.2.2.2.2.2.2.2.2.2.2.2.2.1 v.2.2.2.2.2.2.2.2.2.2.2.2.2.1 v.2.2.2.2.2.2.2.2.2.2.2.2.2.2.1 v.2.2.2.2.2.2.2.2.2.2.2.2.2.2.2.1 v.2.2.2.2.2.2.2.2.2.2.2.2.2.2.2.2.1 v.2.2.2.2.2.2.2.2.2.2.2.2.2.2.2.2.2.1 v.2.2.2.2.2.2.2.2.2.2.2.2.2.2.2.2.2.2.1 v.2.2.2.2.2.2.2.2.2.2.2.2.2.2.2.2.2.2.2.1 v.2.2.2.2.2.2.2.2.2.2.2.2.2.2.2.2.2.2.2.2.1 v.2.2.2.2.2.2.2.2.2.2.2.2.2.2.2.2.2.2.2.2.2.1 v.2.2.2.2.2.2.2.2.2.2.2.2.2.2.2.2.2.2.2.2.2.2.1 v.2.2.2.2.2.2.2.2.2.2.2.2.2.2.2.2.2.2.2.2.2.2.2.1 v.2.2.2.2.2.2.2.2.2.2.2.2.2.2.2.2.2.2.2.2.2.2.2.2.1 v.2.2.2.2.2.2.2.2.2.2.2.2.2.2.2.2.2.2.2.2.2.2.2.2.2.1 v.2.2.2.2.2.2.2.2.2.2.2.2.2.2.2.2.2.2.2.2.2.2.2.2.2.2.1 v.2.2.2.2.2.2.2.2.2.2.2.2.2.2.2.2.2.2.2.2.2.2.2.2.2.2.2.1 v.2.2.2.2.2.2.2.2.2.2.2.2.2.2.2.2.2.2.2.2.2.2.2.2.2.2.2.2.1 v.2.2.2.2.2.2.2.2.2.2.2.2.2.2.2.2.2.2.2.2.2.2.2.2.2.2.2.2.2.1 v.2.2.2.2.2.2.2.2.2.2.2.2.2.2.2.2.2.2.2.2.2.2.2.2.2.2.2.2.2.2.1 v.2.2.2.2.2.2.2.2.2.2.2.2.2.2.2.2.2.2.2.2.2.2.2.2.2.2.2.2.2.2.2.1 v.2.2.2.2.2.2.2.2.2.2.2.2.2.2.2.2.2.2.2.2.2.2.2.2.2.2.2.2.2.2.2.2.1 v.2.2.2.2.2.2.2.2.2.2.2.2.2.2.2.2.2.2.2.2.2.2.2.2.2.2.2.2.2.2.2.2.2.1 v.2.2.2.2.2.2.2.2.2.2.2.2.2.2.2.2.2.2.2.2.2.2.2.2.2.2.2.2.2.2.2.2.2.2
@[irreducible] noncomputable def w : World := c.1
@[irreducible] noncomputable def dA : Nat := c.2.1
@[irreducible] noncomputable def fA : Option (List Env) := c.2.2.1
@[irreducible] noncomputable def gA : Option (List Code) := c.2.2.2.1
@[irreducible] noncomputable def uA : Nat := c.2.2.2.2.1
@[irreducible] noncomputable def s : Shared := c.2.2.2.2.2.1
@[irreducible] noncomputable def p : Program := c.2.2.2.2.2.2.1
@[irreducible] noncomputable def loose : List Str := c.2.2.2.2.2.2.2.1
@[irreducible] noncomputable def mean : ExcName → Option Value := c.2.2.2.2.2.2.2.2.1
@[irreducible] noncomputable def mg : Str → Option Value := c.2.2.2.2.2.2.2.2.2.1
@[irreducible] noncomputable def mb : Str → Option Value := c.2.2.2.2.2.2.2.2.2.2.1
@[irreducible] noncomputable def G0 : Heap := c.2.2.2.2.2.2.2.2.2.2.2.1
@[irreducible] noncomputable def G : Heap := c.2.2.2.2.2.2.2.2.2.2.2.2.1
@[irreducible] noncomputable def m : Str → Option Value := c.2.2.2.2.2.2.2.2.2.2.2.2.2.1
@[irreducible] noncomputable def Q : Flow → Shared → Prop := c.2.2.2.2.2.2.2.2.2.2.2.2.2.2.1
@[irreducible] noncomputable def E : Value → Shared → Prop := c.2.2.2.2.2.2.2.2.2.2.2.2.2.2.2.1
@[irreducible] noncomputable def D : Addr := c.2.2.2.2.2.2.2.2.2.2.2.2.2.2.2.2.1
@[irreducible] noncomputable def R : Addr := c.2.2.2.2.2.2.2.2.2.2.2.2.2.2.2.2.2.1
@[irreducible] noncomputable def N : Addr := c.2.2.2.2.2.2.2.2.2.2.2.2.2.2.2.2.2.2.1
@[irreducible] noncomputable def rs : List Value := c.2.2.2.2.2.2.2.2.2.2.2.2.2.2.2.2.2.2.2.1
@[irreducible] noncomputable def ys : List Value := c.2.2.2.2.2.2.2.2.2.2.2.2.2.2.2.2.2.2.2.2.1
@[irreducible] noncomputable def ps : List (Int × Int) := c.2.2.2.2.2.2.2.2.2.2.2.2.2.2.2.2.2.2.2.2.2.1
@[irreducible] noncomputable def c0 : Nat := c.2.2.2.2.2.2.2.2.2.2.2.2.2.2.2.2.2.2.2.2.2.2.1
@[irreducible] noncomputable def c1 : Nat := c.2.2.2.2.2.2.2.2.2.2.2.2.2.2.2.2.2.2.2.2.2.2.2.1
@[irreducible] noncomputable def c2 : Nat := c.2.2.2.2.2.2.2.2.2.2.2.2.2.2.2.2.2.2.2.2.2.2.2.2.1
@[irreducible] noncomputable def c3 : Nat := c.2.2.2.2.2.2.2.2.2.2.2.2.2.2.2.2.2.2.2.2.2.2.2.2.2.1
@[irreducible] noncomputable def n : Nat := c.2.2.2.2.2.2.2.2.2.2.2.2.2.2.2.2.2.2.2.2.2.2.2.2.2.2.1
@[irreducible] noncomputable def bd : Nat := c.2.2.2.2.2.2.2.2.2.2.2.2.2.2.2.2.2.2.2.2.2.2.2.2.2.2.2.1
@[irreducible] noncomputable def w0 : Tok := c.2.2.2.2.2.2.2.2.2.2.2.2.2.2.2.2.2.2.2.2.2.2.2.2.2.2.2.2.1
@[irreducible] noncomputable def w1 : Tok := c.2.2.2.2.2.2.2.2.2.2.2.2.2.2.2.2.2.2.2.2.2.2.2.2.2.2.2.2.2.1
@[irreducible] noncomputable def w2 : Tok := c.2.2.2.2.2.2.2.2.2.2.2.2.2.2.2.2.2.2.2.2.2.2.2.2.2.2.2.2.2.2.1
@[irreducible] noncomputable def w3 : Tok := c.2.2.2.2.2.2.2.2.2.2.2.2.2.2.2.2.2.2.2.2.2.2.2.2.2.2.2.2.2.2.2.1
@[irreducible] noncomputable def tb : Tok := c.2.2.2.2.2.2.2.2.2.2.2.2.2.2.2.2.2.2.2.2.2.2.2.2.2.2.2.2.2.2.2.2.1
@[irreducible] noncomputable def W : Addr := c.2.2.2.2.2.2.2.2.2.2.2.2.2.2.2.2.2.2.2.2.2.2.2.2.2.2.2.2.2.2.2.2.2.1
@[irreducible] noncomputable def vr : List Value := c.2.2.2.2.2.2.2.2.2.2.2.2.2.2.2.2.2.2.2.2.2.2.2.2.2.2.2.2.2.2.2.2.2.2
set_option maxHeartbeats 2000000 in
theorem spec_c : Say w dA fA gA uA s p loose mean mg mb G0 G m Q E D R N rs ys ps c0 c1 c2 c3 n bd w0 w1 w2 w3 tb W vr := by
  intro body scope hfn X T C1 C2 hroom hu S n1 hD hc3 n2 hR hP hfin n3 hbd n4 hN hrows n5 hW hIr hq
  have hrl : rs.length = ps.length := hP.1
  have hps5 := hfin.1
  have hbd1 : 1 ≤ bd ∧ bd ≤ 32 := by
    rw [← hbd]
    rcases (by lia : ps.length = 0 ∨ ps.length = 1 ∨ ps.length = 2 ∨ ps.length = 3 ∨ ps.length = 4 ∨ ps.length = 5) with e | e | e | e | e | e <;> rw [e] <;> decide
  have hfn0 := hfn
  obtain ⟨oc, od, osl, name, qual, params, dV, kV, doc, pm, cdv, ct, an, hfn⟩ := hfn
  refine' fn_same hfn ?key ?_
  case key => k_is
  intro e1 e2
  subst e1 e2
  clear hfn
  simp only [List.drop_succ_cons, List.drop_zero]
  k_steps
  refine Stop.go ?_
  refine LC (m := m) rfl rfl (BlockOk.of (by decide +kernel) (List.forall_mem_cons.mpr ⟨⟨rfl, rfl⟩, fun _ h => nomatch h⟩)) ?_
  refine LCf (n := bd) (B := BRange "column" 1) ["column"] (fun j => onAny ps (1 + (j : Int))) (fun j => .int (1 + (j : Int))) S.s.v (by rw [sizeLine_eq]; lia) BRange.tg (List.forall_mem_cons.mpr ⟨.inr rfl, fun _ h => nomatch h⟩) (by decide) ?_ (fun C i s₃ bs hC hi hb k3 V3 bare => ?_) (fun C j s₄ bs2 hC hj hpj hb2 k4 V4 bare4 => ?_) (fun N2 zs h' gs tk hc2 hN2 hDL k' V' bare0 => ?_)
  · k_steps
    refine Stop.go (call_range_2 ?_)
    refine src_range rfl (fun b o e => Heap.get?_push_of_some _ e) (by rw [Heap.size_push]; exact Nat.le_succ _) (IsRange.new _ _ _ _ _ _ _) (small_one (by lia) (by lia) (by lia) (by lia)) ?_ _ _
    rw [rangeSize_one]
    split <;> lia
  · obtain ⟨v, rfl, tv, rfl⟩ := hb
    obtain ⟨M, V, e1, e2⟩ := V3
    have q1 : M "column" = some (.int (1 + (i : Int)) tv) := e1 _ (.head _)
    have q2 := (e2 "rulers" rfl).trans n2
    have B : Bas G0 s₃.heap := S.kb.trans k3
    have BG : Sub G s₃.heap := S.s.sub.trans k3
    clear S
    refine wpAny_mono (Q := fun v s' => Stop (PostB s₃ (onAny ps (1 + (i : Int))) v s')) ?_ (fun _ _ x => x) (fun _ _ x => x)
    k_steps
    refine Stop.go ?_
    refine LC (m := M) rfl rfl (BlockOk.of (by decide +kernel) (List.forall_mem_cons.mpr ⟨⟨rfl, rfl⟩, fun _ h => nomatch h⟩)) ?_
    refine LCc (n := ps.length) (B := BPairs "first" "step" ps) ["first", "step"] (fun j => .int ((1 + (i : Int) - (ps.getD j (0, 0)).1) % (ps.getD j (0, 0)).2)) V (by rw [sizeLine_eq]; lia) BPairs.tg (List.forall_mem_cons.mpr ⟨.inl rfl, List.forall_mem_cons.mpr ⟨.inl rfl, fun _ h => nomatch h⟩⟩) (by decide) ?_ (fun C2 j s₄ bs2 hC2 hj hb2 k4 V4 bare4 => ?_) (fun N3 us h3 gs3 tk3 hc3 hN3 hDL3 k5 V5 bare5 => ?_)
    · k_steps
      refine Stop.go ?_
      exact src_pairs rfl (Sub.refl _) (Nat.le_refl _) (hR.lst.at fun o e => BG _ _ e) (hP.keeps BG) _ _ _ _ _ _
    · obtain ⟨_, _, rfl, pr, t, u, hpj, rfl, rfl⟩ := hb2
      obtain ⟨M4, V, e3, e4⟩ := V4
      have q3 : M4 "first" = some (.int pr.1 t) := e3 _ (.head _)
      have q4 : M4 "step" = some (.int pr.2 u) := e3 _ (.tail _ (.head _))
      have q1 := (e4 "column" rfl).trans q1
      obtain ⟨r1, r2, r3⟩ := hfin.2 pr (List.mem_of_getElem? hpj)
      rw [show ps.getD j (0, 0) = pr by rw [List.getD_eq_getElem?_getD, hpj]; rfl]
      have B : Bas G0 s₄.heap := B.trans k4
      refine wpAny_mono (Q := fun v s' => Stop (Post s₄ (fun y _ => Carried y (.int ((1 + (i : Int) - pr.1) % pr.2))) v s')) ?_ (fun _ _ x => x) (fun _ _ x => x)
      k_steps
      exact Stop.go ⟨_, _, _, rfl, ⟨Sub.refl _, id⟩, .int _ _⟩
    · have hIu : IntsAre us (ps.map fun q => (1 + (i : Int) - q.1) % q.2) := ints_of_carried (by
        rw [List.map_map, ← map_getD (d := ((0 : Int), (0 : Int))) ps]
        exact hc3)
      k_steps
      refine Stop.go ?_
      refine in_list_ints hDL3.lst hIu ?_
      k_steps
      refine Stop.go ⟨?_, _, _, _, rfl, ⟨k5, bare5⟩⟩
      unfold onAny
      rw [List.any_map]
      rfl
  · obtain ⟨v, rfl, tv, rfl⟩ := hb2
    obtain ⟨M4, V, e3, e4⟩ := V4
    have e3 : M4 "column" = some (.int (1 + (j : Int)) tv) := e3 _ (.head _)
    have B : Bas G0 s₄.heap := S.kb.trans k4
    refine wpAny_mono (Q := fun v s' => Stop (Post s₄ (fun y _ => Carried y (.int (1 + (j : Int)))) v s')) ?_ (fun _ _ x => x) (fun _ _ x => x)
    k_steps
    exact Stop.go ⟨_, _, _, rfl, ⟨Sub.refl _, id⟩, .int _ _⟩
  · obtain ⟨G6, S6, g6, new6⟩ := S.up (h' := h') k'
    clear S
    k_steps
    refine Stop.go ?_
    refine row_ne (ds := (rowOf ps bd).map PyData.int) ((hW.at fun o e => g6 _ _ e).at fun o e => S6.s.sub _ _ e) (carried_of_ints hIr) hDL (by unfold rowOf; rw [List.map_map]; exact hc2) (flat_ints _) (by show uA + 64 < _; lia) ?_
    have hW6 : DL G6 W vr := hW.at fun o e => g6 _ _ e
    have hrw := row_len ps bd
    have hvr : vr.length = (rowOf ps bd).length := hIr.length
    k_steps
    refine Stop.go (Fm.range1 S6 fun r G7 h7 tk7 t7 u7 S7 g7 hr7 _ => ?_)
    k_steps
    refine Stop.go ?_
    obtain ⟨qual', hqual⟩ := S7.qualL
    refine Fm.lam (xs₁ := [(163, tabObj #[])]) (xs₂ := []) S7 T C2 rfl rfl rfl hqual rfl (.inl rfl) fun lam c' ctv pt G8 h8 tk8 S8 g8 a8' hlo hlc hln => ?_
    clear S7 S6
    k_steps
    · exact X.keeps S8.kb
    refine Stop.go ?_
    refine wpAny_call ?_
    have S8v := S8.s.v
    have hW8 : DL G8 W vr := hW6.at fun o e => g8 _ _ (g7 _ _ e)
    rw [hvr] at hr7
    refine br_key (X.keeps S8.b) (T.keeps S8.b) S8.s.sub rfl (by show dA + 10 < _; lia) (φ := fun v => (rowOf ps bd).getD v 0 - (v : Int) - 1) (n := (rowOf ps bd).length) (oL := _) ?hlam ⟨S8.s.sub _ _ hlo, rfl⟩ ?hst (S8.s.sub _ _ (g8 _ _ hr7)) (by lia) fun t9 h9 tk9 k9 => ?_
    case hlam =>
      intro A2 s2 v tv Q2 E2 hA2 hd2 k2 hv hq2
      obtain ⟨hA2', dA2, fA2, gA2, uA2⟩ := A2
      dsimp only at hA2 hd2
      subst hA2
      refine wpAny_call ?_
      have hlo2 := k2 _ _ (S8.s.sub _ _ hlo)
      refine lam_enter (binds := [("place", .int (v : Int) tv)]) (mc := m) hlo2 ((hlc.keeps S8.s.sub).keeps k2) (T.nolimit.keeps ((S8.kb).trans k2)) (by dsimp only; lia) rfl (List.forall_mem_cons.mpr ⟨rfl, fun _ h => nomatch h⟩) (by simp) ?hcells (fun h1 M1 tk1 V1 k1 b1 f1 => ?_) rfl rfl rfl (by decide)
      case hcells =>
        intro y d e
        rw [List.lookup_cons] at e
        split at e
        · cases e
          rename_i q
          rw [show y = Str.ofString "row" by simpa using q]
          exact ⟨rfl, (S8v.cell (Str.ofString "row") _ rfl).keeps k2⟩
        · cases e
      have b1 := b1 _ (.head _)
      have f1a := (f1 "row" rfl).trans n5
      dsimp only at b1 f1a
      refine lam_gap V1 rfl rfl rfl f1a (((hW8.at fun o e => S8.s.sub _ _ e).at fun o e => k2 _ _ e).at fun o e => k1 _ _ e).lst hIr (r := (rowOf ps bd).getD v 0) ?_ rfl b1 (by lia) fun t tk => hq2 _ _ _ k1
      rw [List.getD_eq_getElem?_getD, List.getElem?_eq_getElem hv]
      rfl
    case hst => exact gap_steps (row_sorted ps bd)
    dsimp only
    obtain ⟨G9, S9, g9, -⟩ := S8.up (h' := h9) k9
    clear S8 S8v
    refine Fm.stL S9 rfl rfl rfl fun h10 tk10 m10 S10 e10 f10 => ?_
    have gg : Sub G G9 := g6.trans (g7.trans (g8.trans g9))
    refine law4 (n := n) hfn0 X T C1 C2 rfl ?hroom ?hu S10 ((f10 "cells" (by decide)).trans n1) (hD.at fun o e => gg _ _ e) hc3 ((f10 "rulers" (by decide)).trans n2) (hR.at fun o e => gg _ _ e) (hP.keeps gg) hfin ((f10 "bound" (by decide)).trans n3) hbd
      ((f10 "near" (by decide)).trans n4) (hN.at fun o e => gg _ _ e) (hrows.keeps gg) ((f10 "row" (by decide)).trans n5) (hW.at fun o e => gg _ _ e) hIr e10 rfl (fun h' d tk gs k1 k2 k4 k5 => hq h' d tk gs k1 k2 k4 fun z => k5 (bare0 z))
    case hroom => exact hroom
    case hu => exact hu
theorem all : Say c.1 c.2.1 c.2.2.1 c.2.2.2.1 c.2.2.2.2.1 c.2.2.2.2.2.1 c.2.2.2.2.2.2.1 c.2.2.2.2.2.2.2.1 c.2.2.2.2.2.2.2.2.1 c.2.2.2.2.2.2.2.2.2.1 c.2.2.2.2.2.2.2.2.2.2.1 c.2.2.2.2.2.2.2.2.2.2.2.1 c.2.2.2.2.2.2.2.2.2.2.2.2.1 c.2.2.2.2.2.2.2.2.2.2.2.2.2.1 c.2.2.2.2.2.2.2.2.2.2.2.2.2.2.1 c.2.2.2.2.2.2.2.2.2.2.2.2.2.2.2.1 c.2.2.2.2.2.2.2.2.2.2.2.2.2.2.2.2.1 c.2.2.2.2.2.2.2.2.2.2.2.2.2.2.2.2.2.1 c.2.2.2.2.2.2.2.2.2.2.2.2.2.2.2.2.2.2.1 c.2.2.2.2.2.2.2.2.2.2.2.2.2.2.2.2.2.2.2.1 c.2.2.2.2.2.2.2.2.2.2.2.2.2.2.2.2.2.2.2.2.1 c.2.2.2.2.2.2.2.2.2.2.2.2.2.2.2.2.2.2.2.2.2.1 c.2.2.2.2.2.2.2.2.2.2.2.2.2.2.2.2.2.2.2.2.2.2.1 c.2.2.2.2.2.2.2.2.2.2.2.2.2.2.2.2.2.2.2.2.2.2.2.1 c.2.2.2.2.2.2.2.2.2.2.2.2.2.2.2.2.2.2.2.2.2.2.2.2.1 c.2.2.2.2.2.2.2.2.2.2.2.2.2.2.2.2.2.2.2.2.2.2.2.2.2.1 c.2.2.2.2.2.2.2.2.2.2.2.2.2.2.2.2.2.2.2.2.2.2.2.2.2.2.1 c.2.2.2.2.2.2.2.2.2.2.2.2.2.2.2.2.2.2.2.2.2.2.2.2.2.2.2.1 c.2.2.2.2.2.2.2.2.2.2.2.2.2.2.2.2.2.2.2.2.2.2.2.2.2.2.2.2.1 c.2.2.2.2.2.2.2.2.2.2.2.2.2.2.2.2.2.2.2.2.2.2.2.2.2.2.2.2.2.1 c.2.2.2.2.2.2.2.2.2.2.2.2.2.2.2.2.2.2.2.2.2.2.2.2.2.2.2.2.2.2.1 c.2.2.2.2.2.2.2.2.2.2.2.2.2.2.2.2.2.2.2.2.2.2.2.2.2.2.2.2.2.2.2.1 c.2.2.2.2.2.2.2.2.2.2.2.2.2.2.2.2.2.2.2.2.2.2.2.2.2.2.2.2.2.2.2.2.1 c.2.2.2.2.2.2.2.2.2.2.2.2.2.2.2.2.2.2.2.2.2.2.2.2.2.2.2.2.2.2.2.2.2.1 c.2.2.2.2.2.2.2.2.2.2.2.2.2.2.2.2.2.2.2.2.2.2.2.2.2.2.2.2.2.2.2.2.2.2 := by
  have h := spec_c
  unfold w dA fA gA uA s p loose mean mg mb G0 G m Q E D R N rs ys ps c0 c1 c2 c3 n bd w0 w1 w2 w3 tb W vr at h
  exact h
end L3
theorem law3 {w : World} {A : Around} {s : Shared} {p : Program} {loose : List Str} {mean : ExcName → Option Value} {mg mb : Str → Option Value} {G0 G : Heap} {m : Str → Option Value}
    {Q : Flow → Shared → Prop} {E : Value → Shared → Prop} {D R N : Addr} {rs ys : List Value} {ps : List (Int × Int)} {c0 c1 c2 c3 n bd : Nat} {w0 w1 w2 w3 tb : Tok} {body : List Stmt} {scope : Scope} (hfn : LawFn (hd.heap_1 w.params) body scope)
    (X : (hd.heap_1 w.params).In G0) (T : Top p loose mean mg mb G0) (C1 : CodeHd G0 167 163) (C2 : CodeHd G0 172 170)
    (hh : A.handled = none) (hroom : A.depth + 50 < recursionLimit) (hu : A.units + 350 < cLine)
    (S : Fm G0 (lawEnv scope n) [(163, tabObj #[]), (170, tabObj #[])] G s.heap m) (n1 : m "cells" = some (.ref D)) (hD : DL G D [Value.int (c0 : Int) w0, Value.int (c1 : Int) w1, Value.int (c2 : Int) w2, Value.int (c3 : Int) w3]) (hc3 : c3 < 1000000)
    (n2 : m "rulers" = some (.ref R)) (hR : DL G R rs) (hP : PairsAre G rs ps) (hfin : RFin ps) (n3 : m "bound" = some (.int (bd : Int) tb)) (hbd : 2 ^ ps.length = bd)
    (n4 : m "near" = some (.ref N)) (hN : DL G N ys) (hrows : RowsC G ys (ps.map fun q => (mksOf q.1.toNat q.2.toNat bd).map PyData.int)) {W : Addr} {vr : List Value} (n5 : m "row" = some (.ref W)) (hW : DL G W vr) (hIr : IntsAre vr (rowOf ps bd))
    (hq : ∀ h' d tk gs, Sub G0 h' → (∃ pt, h'.get? 163 = some (tabObj pt)) → (∃ pt, h'.get? 170 = some (tabObj pt)) → (AllBare s.gens → AllBare gs) → Q (.ret (.bool true)) { s with heap := h', drawn := d, toks := tk, gens := gs }) :
    wpAny (model PG w) A (execs (body.drop 6) (lawEnv scope n)) Q E s := by
  obtain ⟨hA, dA, fA, gA, uA⟩ := A
  dsimp only at hh
  subst hh
  exact of_pick L3.ne (fun v => L3.Say v.1 v.2.1 v.2.2.1 v.2.2.2.1 v.2.2.2.2.1 v.2.2.2.2.2.1 v.2.2.2.2.2.2.1 v.2.2.2.2.2.2.2.1 v.2.2.2.2.2.2.2.2.1 v.2.2.2.2.2.2.2.2.2.1 v.2.2.2.2.2.2.2.2.2.2.1 v.2.2.2.2.2.2.2.2.2.2.2.1 v.2.2.2.2.2.2.2.2.2.2.2.2.1 v.2.2.2.2.2.2.2.2.2.2.2.2.2.1 v.2.2.2.2.2.2.2.2.2.2.2.2.2.2.1 v.2.2.2.2.2.2.2.2.2.2.2.2.2.2.2.1 v.2.2.2.2.2.2.2.2.2.2.2.2.2.2.2.2.1 v.2.2.2.2.2.2.2.2.2.2.2.2.2.2.2.2.2.1 v.2.2.2.2.2.2.2.2.2.2.2.2.2.2.2.2.2.2.1 v.2.2.2.2.2.2.2.2.2.2.2.2.2.2.2.2.2.2.2.1 v.2.2.2.2.2.2.2.2.2.2.2.2.2.2.2.2.2.2.2.2.1 v.2.2.2.2.2.2.2.2.2.2.2.2.2.2.2.2.2.2.2.2.2.1 v.2.2.2.2.2.2.2.2.2.2.2.2.2.2.2.2.2.2.2.2.2.2.1 v.2.2.2.2.2.2.2.2.2.2.2.2.2.2.2.2.2.2.2.2.2.2.2.1 v.2.2.2.2.2.2.2.2.2.2.2.2.2.2.2.2.2.2.2.2.2.2.2.2.1 v.2.2.2.2.2.2.2.2.2.2.2.2.2.2.2.2.2.2.2.2.2.2.2.2.2.1 v.2.2.2.2.2.2.2.2.2.2.2.2.2.2.2.2.2.2.2.2.2.2.2.2.2.2.1 v.2.2.2.2.2.2.2.2.2.2.2.2.2.2.2.2.2.2.2.2.2.2.2.2.2.2.2.1 v.2.2.2.2.2.2.2.2.2.2.2.2.2.2.2.2.2.2.2.2.2.2.2.2.2.2.2.2.1 v.2.2.2.2.2.2.2.2.2.2.2.2.2.2.2.2.2.2.2.2.2.2.2.2.2.2.2.2.2.1 v.2.2.2.2.2.2.2.2.2.2.2.2.2.2.2.2.2.2.2.2.2.2.2.2.2.2.2.2.2.2.1 v.2.2.2.2.2.2.2.2.2.2.2.2.2.2.2.2.2.2.2.2.2.2.2.2.2.2.2.2.2.2.2.1 v.2.2.2.2.2.2.2.2.2.2.2.2.2.2.2.2.2.2.2.2.2.2.2.2.2.2.2.2.2.2.2.2.1 v.2.2.2.2.2.2.2.2.2.2.2.2.2.2.2.2.2.2.2.2.2.2.2.2.2.2.2.2.2.2.2.2.2.1 v.2.2.2.2.2.2.2.2.2.2.2.2.2.2.2.2.2.2.2.2.2.2.2.2.2.2.2.2.2.2.2.2.2.2) L3.all (w, dA, fA, gA, uA, s, p, loose, mean, mg, mb, G0, G, m, Q, E, D, R, N, rs, ys, ps, c0, c1, c2, c3, n, bd, w0, w1, w2, w3, tb, W, vr) body scope hfn X T C1 C2 hroom hu S n1 hD hc3 n2 hR hP hfin n3 hbd n4 hN hrows n5 hW hIr hq
end RS
end PartU5

theorem RS.forgetU4 {prog : PySem.Program} {w : PySem.World} {A : PySem.Around} {env : PySem.Env} {Q : PySem.Flow → PySem.Shared → Prop} {E : PySem.Value → PySem.Shared → Prop} {s : PySem.Shared}
    (h : PySem.wpAny (PySem.model prog w) A (PySem.execs [] env) Q E s) : PySem.wpAny (PySem.model prog w) A (PySem.execs [] env) Q E s := by
  first | (walk1; fail "no") | skip
  w_top off
  exact h

section PartU4
open PySem PySem.W PyProof.Rows PySem.Calls
set_option Elab.async false
set_option maxRecDepth 100000
namespace RS
theorem fillU4 : (fun (_ : Params → Frag) (_ : OpenLaw) => True) hd.heap_1 PySem.Challenge.rw_rs0192_01 := by
  k_fill
  trivial
namespace L2
abbrev V : Type := (World) × (Nat) × (Option (List Env)) × (Option (List Code)) × (Nat) × (Shared) × (Program) × (List Str) × (ExcName → Option Value) × (Str → Option Value) × (Str → Option Value) × (Heap) × (Heap) × (Str → Option Value) × (Flow → Shared → Prop) × (Value → Shared → Prop) × (Addr) × (Addr) × (Addr) × (List Value) × (List Value) × (List (Int × Int)) × (Nat) × (Nat) × (Nat) × (Nat) × (Nat) × (Nat) × (Tok) × (Tok) × (Tok) × (Tok) × (Tok)
def Say (w : World) (dA : Nat) (fA : Option (List Env)) (gA : Option (List Code)) (uA : Nat) (s : Shared) (p : Program) (loose : List Str) (mean : ExcName → Option Value) (mg : Str → Option Value) (mb : Str → Option Value) (G0 : Heap) (G : Heap) (m : Str → Option Value) (Q : Flow → Shared → Prop) (E : Value → Shared → Prop) (D : Addr) (R : Addr) (N : Addr) (rs : List Value) (ys : List Value) (ps : List (Int × Int)) (c0 : Nat) (c1 : Nat) (c2 : Nat) (c3 : Nat) (n : Nat) (bd : Nat) (w0 : Tok) (w1 : Tok) (w2 : Tok) (w3 : Tok) (tb : Tok) : Prop := ∀ (body : List Stmt) (scope : Scope) (hfn : LawFn (hd.heap_1 w.params) body scope) (X : (hd.heap_1 w.params).In G0) (T : Top p loose mean mg mb G0) (C1 : CodeHd G0 167 163) (C2 : CodeHd G0 172 170) (hroom : dA + 50 < recursionLimit) (hu : uA + 350 < cLine) (S : Fm G0 (lawEnv scope n) [(163, tabObj #[]), (170, tabObj #[])] G s.heap m) (n1 : m "cells" = some (.ref D)) (hD : DL G D [Value.int (c0 : Int) w0, Value.int (c1 : Int) w1, Value.int (c2 : Int) w2, Value.int (c3 : Int) w3]) (hc3 : c3 < 1000000) (n2 : m "rulers" = some (.ref R)) (hR : DL G R rs) (hP : PairsAre G rs ps) (hfin : RFin ps) (n3 : m "bound" = some (.int (bd : Int) tb)) (hbd : 2 ^ ps.length = bd) (n4 : m "near" = some (.ref N)) (hN : DL G N ys) (hrows : RowsC G ys (ps.map fun q => (mksOf q.1.toNat q.2.toNat bd).map PyData.int)) (hq : ∀ h' d tk gs, Sub G0 h' → (∃ pt, h'.get? 163 = some (tabObj pt)) → (∃ pt, h'.get? 170 = some (tabObj pt)) → (AllBare s.gens → AllBare gs) → Q (.ret (.bool true)) { s with heap := h', drawn := d, toks := tk, gens := gs }),
    wpAny (model PG w) (Around.mk none dA fA gA uA) (execs (body.drop 4) (lawEnv scope n)) Q E s
theorem ne : Nonempty V := ⟨((Classical.choice neW), 0, none, none, 0, {}, default, [], (fun _ => none), (fun _ => none), (fun _ => none), {}, {}, (fun _ => none), (fun _ _ => True), (fun _ _ => True), 0, 0, 0, [], [], [], 0, 0, 0, 0, 0, 0, 0, 0, 0, 0, 0)⟩
noncomputable def c : V := pick ne fun v => Say v.1 v.2.1 v.2.2.1 v.2.2.2.1 v.2.2.2.2.1 v.2.2.2.2.2.1 v.2.2.2.2.2.2.1 v.2.2.2.2.2.2.2.1 v.2.2.2.2.2.2.2.2.1 v.2.2.2.2.2.2.2.2.2.1 v.2.2.2.2.2.2.2.2.2.2.1 v.2.2.2.2.2.2.2.2.2.2.2.1 v.2.2.2.2.2.2.2.2.2.2.2.2.1 v.2.2.2.2.2.2.2.2.2.2.2.2.2.1 v.2.2.2.2.2.2.2.2.2.2.2.2.2.2.1 v.2.2.2.2.2.2.2.2.2.2.2.2.2.2.2.1 v.2.2.2.2.2.2.2.2.2.2.2.2.2.2.2.2.1 v.2.2.2.2.2.2.2.2.2.2.2.2.2.2.2.2.2.1 v.2.2.2.2.2.2.2.2.2.2.2.2.2.2.2.2.2.2.1 v.2.2.2.2.2.2.2.2.2.2.2.2.2.2.2.2.2.2.2.1 v.2.2.2.2.2.2.2.2.2.2.2.2.2.2.2.2.2.2.2.2.1 v.2.2.2.2.2.2.2.2.2.2.2.2.2.2.2.2.2.2.2.2.2.1 v.2.2.2.2.2.2.2.2.2.2.2.2.2.2.2.2.2.2.2.2.2.2.1 v.2.2.2.2.2.2.2.2.2.2.2.2.2.2.2.2.2.2.2.2.2.2.2.1 v.2.2.2.2.2.2.2.2.2.2.2.2.2.2.2.2.2.2.2.2.2.2.2.2.1 v.2.2.2.2.2.2.2.2.2.2.2.2.2.2.2.2.2.2.2.2.2.2.2.2.2.1 v.2.2.2.2.2.2.2.2.2.2.2.2.2.2.2.2.2.2.2.2.2.2.2.2.2.2.1 v.2.2.2.2.2.2.2.2.2.2.2.2.2.2.2.2.2.2.2.2.2.2.2.2.2.2.2.1 v.2.2.2.2.2.2.2.2.2.2.2.2.2.2.2.2.2.2.2.2.2.2.2.2.2.2.2.2.1 v.2.2.2.2.2.2.2.2.2.2.2.2.2.2.2.2.2.2.2.2.2.2.2.2.2.2.2.2.2.1 v.2.2.2.2.2.2.2.2.2.2.2.2.2.2.2.2.2.2.2.2.2.2.2.2.2.2.2.2.2.2.1 v.2.2.2.2.2.2.2.2.2.2.2.2.2.2.2.2.2.2.2.2.2.2.2.2.2.2.2.2.2.2.2.1 v.2.2.2.2.2.2.2.2.2.2.2.2.2.2.2.2.2.2.2.2.2.2.2.2.2.2.2.2.2.2.2.2
@[irreducible] noncomputable def w : World := c.1
@[irreducible] noncomputable def dA : Nat := c.2.1
@[irreducible] noncomputable def fA : Option (List Env) := c.2.2.1
@[irreducible] noncomputable def gA : Option (List Code) := c.2.2.2.1
@[irreducible] noncomputable def uA : Nat := c.2.2.2.2.1
@[irreducible] noncomputable def s : Shared := c.2.2.2.2.2.1
@[irreducible] noncomputable def p : Program := c.2.2.2.2.2.2.1
@[irreducible] noncomputable def loose : List Str := c.2.2.2.2.2.2.2.1
@[irreducible] noncomputable def mean : ExcName → Option Value := c.2.2.2.2.2.2.2.2.1
@[irreducible] noncomputable def mg : Str → Option Value := c.2.2.2.2.2.2.2.2.2.1
@[irreducible] noncomputable def mb : Str → Option Value := c.2.2.2.2.2.2.2.2.2.2.1
@[irreducible] noncomputable def G0 : Heap := c.2.2.2.2.2.2.2.2.2.2.2.1
@[irreducible] noncomputable def G : Heap := c.2.2.2.2.2.2.2.2.2.2.2.2.1
@[irreducible] noncomputable def m : Str → Option Value := c.2.2.2.2.2.2.2.2.2.2.2.2.2.1
@[irreducible] noncomputable def Q : Flow → Shared → Prop := c.2.2.2.2.2.2.2.2.2.2.2.2.2.2.1
@[irreducible] noncomputable def E : Value → Shared → Prop := c.2.2.2.2.2.2.2.2.2.2.2.2.2.2.2.1
@[irreducible] noncomputable def D : Addr := c.2.2.2.2.2.2.2.2.2.2.2.2.2.2.2.2.1
@[irreducible] noncomputable def R : Addr := c.2.2.2.2.2.2.2.2.2.2.2.2.2.2.2.2.2.1
@[irreducible] noncomputable def N : Addr := c.2.2.2.2.2.2.2.2.2.2.2.2.2.2.2.2.2.2.1
@[irreducible] noncomputable def rs : List Value := c.2.2.2.2.2.2.2.2.2.2.2.2.2.2.2.2.2.2.2.1
@[irreducible] noncomputable def ys : List Value := c.2.2.2.2.2.2.2.2.2.2.2.2.2.2.2.2.2.2.2.2.1
@[irreducible] noncomputable def ps : List (Int × Int) := c.2.2.2.2.2.2.2.2.2.2.2.2.2.2.2.2.2.2.2.2.2.1
@[irreducible] noncomputable def c0 : Nat := c.2.2.2.2.2.2.2.2.2.2.2.2.2.2.2.2.2.2.2.2.2.2.1
@[irreducible] noncomputable def c1 : Nat := c.2.2.2.2.2.2.2.2.2.2.2.2.2.2.2.2.2.2.2.2.2.2.2.1
@[irreducible] noncomputable def c2 : Nat := c.2.2.2.2.2.2.2.2.2.2.2.2.2.2.2.2.2.2.2.2.2.2.2.2.1
@[irreducible] noncomputable def c3 : Nat := c.2.2.2.2.2.2.2.2.2.2.2.2.2.2.2.2.2.2.2.2.2.2.2.2.2.1
@[irreducible] noncomputable def n : Nat := c.2.2.2.2.2.2.2.2.2.2.2.2.2.2.2.2.2.2.2.2.2.2.2.2.2.2.1
@[irreducible] noncomputable def bd : Nat := c.2.2.2.2.2.2.2.2.2.2.2.2.2.2.2.2.2.2.2.2.2.2.2.2.2.2.2.1
@[irreducible] noncomputable def w0 : Tok := c.2.2.2.2.2.2.2.2.2.2.2.2.2.2.2.2.2.2.2.2.2.2.2.2.2.2.2.2.1
@[irreducible] noncomputable def w1 : Tok := c.2.2.2.2.2.2.2.2.2.2.2.2.2.2.2.2.2.2.2.2.2.2.2.2.2.2.2.2.2.1
@[irreducible] noncomputable def w2 : Tok := c.2.2.2.2.2.2.2.2.2.2.2.2.2.2.2.2.2.2.2.2.2.2.2.2.2.2.2.2.2.2.1
@[irreducible] noncomputable def w3 : Tok := c.2.2.2.2.2.2.2.2.2.2.2.2.2.2.2.2.2.2.2.2.2.2.2.2.2.2.2.2.2.2.2.1
@[irreducible] noncomputable def tb : Tok := c.2.2.2.2.2.2.2.2.2.2.2.2.2.2.2.2.2.2.2.2.2.2.2.2.2.2.2.2.2.2.2.2
set_option maxHeartbeats 2000000 in
theorem spec_c : Say w dA fA gA uA s p loose mean mg mb G0 G m Q E D R N rs ys ps c0 c1 c2 c3 n bd w0 w1 w2 w3 tb := by
  intro body scope hfn X T C1 C2 hroom hu S n1 hD hc3 n2 hR hP hfin n3 hbd n4 hN hrows hq
  have hrl : rs.length = ps.length := hP.1
  have hps5 := hfin.1
  have hbd1 : 1 ≤ bd ∧ bd ≤ 32 := by
    rw [← hbd]
    rcases (by lia : ps.length = 0 ∨ ps.length = 1 ∨ ps.length = 2 ∨ ps.length = 3 ∨ ps.length = 4 ∨ ps.length = 5) with e | e | e | e | e | e <;> rw [e] <;> decide
  have hfn0 := hfn
  obtain ⟨oc, od, osl, name, qual, params, dV, kV, doc, pm, cdv, ct, an, hfn⟩ := hfn
  refine' fn_same hfn ?key ?_
  case key => k_is
  intro e1 e2
  subst e1 e2
  clear hfn
  simp only [List.drop_succ_cons, List.drop_zero]
  k_steps
  refine Stop.go ?_
  refine LC (m := m) rfl rfl (BlockOk.of (by decide +kernel) (List.forall_mem_cons.mpr ⟨⟨rfl, rfl⟩, fun _ h => nomatch h⟩)) ?_
  refine LCr (n := ps.length) (B := BPairs "first" "step" ps) ["first", "step"] (fun i => (mksOf (ps.getD i (0, 0)).1.toNat (ps.getD i (0, 0)).2.toNat bd).map PyData.int) S.s.v (by rw [sizeLine_eq]; lia) BPairs.tg (List.forall_mem_cons.mpr ⟨.inr rfl, List.forall_mem_cons.mpr ⟨.inr rfl, fun _ h => nomatch h⟩⟩) (by decide) ?_ (fun C i s₃ bs hC hi hb k3 V3 bare => ?_) (fun N2 zs h' gs tk hrows2 hN2 hDL k' V' bare0 => ?_)
  · k_steps
    refine Stop.go ?_
    exact src_pairs rfl (Sub.refl _) (Nat.le_refl _) (hR.lst.at fun o e => S.s.sub _ _ e) (hP.keeps S.s.sub) _ _ _ _ _ _
  · obtain ⟨_, _, rfl, pr, t, u, hpi, rfl, rfl⟩ := hb
    obtain ⟨M, V, e1, e2⟩ := V3
    have q1 : M "first" = some (.int pr.1 t) := e1 _ (.head _)
    have q2 : M "step" = some (.int pr.2 u) := e1 _ (.tail _ (.head _))
    have q3 := (e2 "bound" rfl).trans n3
    have B : Bas G0 s₃.heap := S.kb.trans k3
    obtain ⟨r1, r2, r3⟩ := hfin.2 pr (List.mem_of_getElem? hpi)
    rw [show ps.getD i (0, 0) = pr by rw [List.getD_eq_getElem?_getD, hpi]; rfl]
    clear S
    refine LC (m := M) rfl rfl (BlockOk.of (by decide +kernel) (List.forall_mem_cons.mpr ⟨⟨rfl, rfl⟩, List.forall_mem_cons.mpr ⟨⟨rfl, rfl⟩, fun _ h => nomatch h⟩⟩)) ?_
    refine LCf (n := bd) (B := BRange "column" 1) ["column"] (fun j => decide ((1 + (j : Int) - pr.1) % pr.2 = 0)) (fun j => .int (1 + (j : Int))) V (by rw [sizeLine_eq]; lia) BRange.tg (List.forall_mem_cons.mpr ⟨.inl rfl, fun _ h => nomatch h⟩) (by decide) ?_ (fun C2 j s₄ bs2 hC2 hj hb2 k4 V4 bare4 => ?_) (fun C2 j s₄ bs2 hC2 hj hpj hb2 k4 V4 bare4 => ?_) (fun N3 us h3 gs3 tk3 hc3 hN3 hDL3 k5 V5 bare5 => ?_)
    · k_steps
      refine Stop.go (call_range_2 ?_)
      refine src_range rfl (fun b o e => Heap.get?_push_of_some _ e) (by rw [Heap.size_push]; exact Nat.le_succ _) (IsRange.new _ _ _ _ _ _ _) (small_one (by lia) (by lia) (by lia) (by lia)) ?_ _ _
      rw [rangeSize_one]
      split <;> lia
    · obtain ⟨v, rfl, tv, rfl⟩ := hb2
      obtain ⟨M4, V, e3, e4⟩ := V4
      have e3 : M4 "column" = some (.int (1 + (j : Int)) tv) := e3 _ (.head _)
      have q1 := (e4 "first" rfl).trans q1
      have q2 := (e4 "step" rfl).trans q2
      have B : Bas G0 s₄.heap := B.trans k4
      refine wpAny_mono (Q := fun v s' => Stop (PostB s₄ (decide ((1 + (j : Int) - pr.1) % pr.2 = 0)) v s')) ?_ (fun _ _ x => x) (fun _ _ x => x)
      k_steps
      exact Stop.go ⟨rfl, _, _, _, rfl, ⟨Sub.refl _, id⟩⟩
    · obtain ⟨v, rfl, tv, rfl⟩ := hb2
      obtain ⟨M4, V, e3, e4⟩ := V4
      have e3 : M4 "column" = some (.int (1 + (j : Int)) tv) := e3 _ (.head _)
      have B : Bas G0 s₄.heap := B.trans k4
      refine wpAny_mono (Q := fun v s' => Stop (Post s₄ (fun y _ => Carried y (.int (1 + (j : Int)))) v s')) ?_ (fun _ _ x => x) (fun _ _ x => x)
      k_steps
      exact Stop.go ⟨_, _, _, rfl, ⟨Sub.refl _, id⟩, .int _ _⟩
    · refine ⟨_, _, _, rfl, ⟨k5, bare5⟩, N3, us, rfl, hN3, hDL3, ?_⟩
      rw [← mks_filter (b := bd) (f := pr.1.toNat) (k := pr.2.toNat) (by lia) (by lia), List.map_map, Int.toNat_of_nonneg (by lia), Int.toNat_of_nonneg (by lia)]
      exact hc3
  · skip
    obtain ⟨G6, S6, g6, new6⟩ := S.up (h' := h') k'
    have hrows2 := hrows2 G6 new6
    clear S
    rw [map_getD ps fun q => (mksOf q.1.toNat q.2.toNat bd).map PyData.int] at hrows2
    k_steps
    refine Stop.go ?_
    refine rows_ne ((hN.at fun o e => g6 _ _ e).at fun o e => S6.s.sub _ _ e) ((hrows.keeps g6).keeps S6.s.sub) hDL (hrows2.keeps S6.s.sub) (fun ds hds d hd => ?_) (by show uA + 64 < _; lia) ?_
    · obtain ⟨q, _, rfl⟩ := List.mem_map.mp hds
      exact flat_ints _ d hd
    k_steps
    · exact X.keeps S6.kb
    refine Stop.go ?_
    have hlen := flat_len (bd := bd) hfin.2
    have hle : ps.length * bd ≤ 5 * 32 := Nat.mul_le_mul hps5 hbd1.2
    obtain ⟨nN, hNN⟩ := hN
    refine row_spec X T S6.kb rfl (by show dA + 20 < _; lia) (S6.s.sub _ _ (g6 _ _ hNN)) (RowsC.ints (nss := ps.map fun q => mksOf q.1.toNat q.2.toNat bd) (by rw [List.map_map]; exact (hrows.keeps g6).keeps S6.s.sub)) (by lia) fun W vr nr h7 tk7 hW hIr hWn k7 => ?_
    rw [row_fold hfin] at hIr
    dsimp only at hWn k7 ⊢
    obtain ⟨G7, S7, g7, new7⟩ := S6.up (h' := h7) k7
    clear S6
    k_steps
    refine Stop.go ?_
    refine Fm.stC S7 rfl rfl rfl fun h8 tk8 m8 S8 e8 f8 => ?_
    have g8 : Sub G G7 := g6.trans g7
    refine law_of (K := hd.heap_1 w.params) hfn0 fun hfn => ?_
    refine law3 (n := n) hfn X T C1 C2 rfl ?hroom ?hu S8 ((f8 "cells" (by decide)).trans n1) (hD.at fun o e => g8 _ _ e) hc3 ((f8 "rulers" (by decide)).trans n2) (hR.at fun o e => g8 _ _ e) (hP.keeps g8) hfin ((f8 "bound" (by decide)).trans n3) hbd
      ((f8 "near" (by decide)).trans n4) (DL.at ⟨nN, hNN⟩ fun o e => g8 _ _ e) (hrows.keeps g8) e8 ⟨nr, new7 _ _ hWn hW⟩ hIr (fun h' d tk gs k1 k2 k4 k5 => hq h' d tk gs k1 k2 k4 fun z => k5 (bare0 z))
    case hroom => exact hroom
    case hu => exact hu
theorem all : Say c.1 c.2.1 c.2.2.1 c.2.2.2.1 c.2.2.2.2.1 c.2.2.2.2.2.1 c.2.2.2.2.2.2.1 c.2.2.2.2.2.2.2.1 c.2.2.2.2.2.2.2.2.1 c.2.2.2.2.2.2.2.2.2.1 c.2.2.2.2.2.2.2.2.2.2.1 c.2.2.2.2.2.2.2.2.2.2.2.1 c.2.2.2.2.2.2.2.2.2.2.2.2.1 c.2.2.2.2.2.2.2.2.2.2.2.2.2.1 c.2.2.2.2.2.2.2.2.2.2.2.2.2.2.1 c.2.2.2.2.2.2.2.2.2.2.2.2.2.2.2.1 c.2.2.2.2.2.2.2.2.2.2.2.2.2.2.2.2.1 c.2.2.2.2.2.2.2.2.2.2.2.2.2.2.2.2.2.1 c.2.2.2.2.2.2.2.2.2.2.2.2.2.2.2.2.2.2.1 c.2.2.2.2.2.2.2.2.2.2.2.2.2.2.2.2.2.2.2.1 c.2.2.2.2.2.2.2.2.2.2.2.2.2.2.2.2.2.2.2.2.1 c.2.2.2.2.2.2.2.2.2.2.2.2.2.2.2.2.2.2.2.2.2.1 c.2.2.2.2.2.2.2.2.2.2.2.2.2.2.2.2.2.2.2.2.2.2.1 c.2.2.2.2.2.2.2.2.2.2.2.2.2.2.2.2.2.2.2.2.2.2.2.1 c.2.2.2.2.2.2.2.2.2.2.2.2.2.2.2.2.2.2.2.2.2.2.2.2.1 c.2.2.2.2.2.2.2.2.2.2.2.2.2.2.2.2.2.2.2.2.2.2.2.2.2.1 c.2.2.2.2.2.2.2.2.2.2.2.2.2.2.2.2.2.2.2.2.2.2.2.2.2.2.1 c.2.2.2.2.2.2.2.2.2.2.2.2.2.2.2.2.2.2.2.2.2.2.2.2.2.2.2.1 c.2.2.2.2.2.2.2.2.2.2.2.2.2.2.2.2.2.2.2.2.2.2.2.2.2.2.2.2.1 c.2.2.2.2.2.2.2.2.2.2.2.2.2.2.2.2.2.2.2.2.2.2.2.2.2.2.2.2.2.1 c.2.2.2.2.2.2.2.2.2.2.2.2.2.2.2.2.2.2.2.2.2.2.2.2.2.2.2.2.2.2.1 c.2.2.2.2.2.2.2.2.2.2.2.2.2.2.2.2.2.2.2.2.2.2.2.2.2.2.2.2.2.2.2.1 c.2.2.2.2.2.2.2.2.2.2.2.2.2.2.2.2.2.2.2.2.2.2.2.2.2.2.2.2.2.2.2.2 := by
  have h := spec_c
  unfold w dA fA gA uA s p loose mean mg mb G0 G m Q E D R N rs ys ps c0 c1 c2 c3 n bd w0 w1 w2 w3 tb at h
  exact h
end L2
theorem law2 {w : World} {A : Around} {s : Shared} {p : Program} {loose : List Str} {mean : ExcName → Option Value} {mg mb : Str → Option Value} {G0 G : Heap} {m : Str → Option Value}
    {Q : Flow → Shared → Prop} {E : Value → Shared → Prop} {D R N : Addr} {rs ys : List Value} {ps : List (Int × Int)} {c0 c1 c2 c3 n bd : Nat} {w0 w1 w2 w3 tb : Tok} {body : List Stmt} {scope : Scope} (hfn : LawFn (hd.heap_1 w.params) body scope)
    (X : (hd.heap_1 w.params).In G0) (T : Top p loose mean mg mb G0) (C1 : CodeHd G0 167 163) (C2 : CodeHd G0 172 170)
    (hh : A.handled = none) (hroom : A.depth + 50 < recursionLimit) (hu : A.units + 350 < cLine)
    (S : Fm G0 (lawEnv scope n) [(163, tabObj #[]), (170, tabObj #[])] G s.heap m) (n1 : m "cells" = some (.ref D)) (hD : DL G D [Value.int (c0 : Int) w0, Value.int (c1 : Int) w1, Value.int (c2 : Int) w2, Value.int (c3 : Int) w3]) (hc3 : c3 < 1000000)
    (n2 : m "rulers" = some (.ref R)) (hR : DL G R rs) (hP : PairsAre G rs ps) (hfin : RFin ps) (n3 : m "bound" = some (.int (bd : Int) tb)) (hbd : 2 ^ ps.length = bd)
    (n4 : m "near" = some (.ref N)) (hN : DL G N ys) (hrows : RowsC G ys (ps.map fun q => (mksOf q.1.toNat q.2.toNat bd).map PyData.int))
    (hq : ∀ h' d tk gs, Sub G0 h' → (∃ pt, h'.get? 163 = some (tabObj pt)) → (∃ pt, h'.get? 170 = some (tabObj pt)) → (AllBare s.gens → AllBare gs) → Q (.ret (.bool true)) { s with heap := h', drawn := d, toks := tk, gens := gs }) :
    wpAny (model PG w) A (execs (body.drop 4) (lawEnv scope n)) Q E s := by
  obtain ⟨hA, dA, fA, gA, uA⟩ := A
  dsimp only at hh
  subst hh
  exact of_pick L2.ne (fun v => L2.Say v.1 v.2.1 v.2.2.1 v.2.2.2.1 v.2.2.2.2.1 v.2.2.2.2.2.1 v.2.2.2.2.2.2.1 v.2.2.2.2.2.2.2.1 v.2.2.2.2.2.2.2.2.1 v.2.2.2.2.2.2.2.2.2.1 v.2.2.2.2.2.2.2.2.2.2.1 v.2.2.2.2.2.2.2.2.2.2.2.1 v.2.2.2.2.2.2.2.2.2.2.2.2.1 v.2.2.2.2.2.2.2.2.2.2.2.2.2.1 v.2.2.2.2.2.2.2.2.2.2.2.2.2.2.1 v.2.2.2.2.2.2.2.2.2.2.2.2.2.2.2.1 v.2.2.2.2.2.2.2.2.2.2.2.2.2.2.2.2.1 v.2.2.2.2.2.2.2.2.2.2.2.2.2.2.2.2.2.1 v.2.2.2.2.2.2.2.2.2.2.2.2.2.2.2.2.2.2.1 v.2.2.2.2.2.2.2.2.2.2.2.2.2.2.2.2.2.2.2.1 v.2.2.2.2.2.2.2.2.2.2.2.2.2.2.2.2.2.2.2.2.1 v.2.2.2.2.2.2.2.2.2.2.2.2.2.2.2.2.2.2.2.2.2.1 v.2.2.2.2.2.2.2.2.2.2.2.2.2.2.2.2.2.2.2.2.2.2.1 v.2.2.2.2.2.2.2.2.2.2.2.2.2.2.2.2.2.2.2.2.2.2.2.1 v.2.2.2.2.2.2.2.2.2.2.2.2.2.2.2.2.2.2.2.2.2.2.2.2.1 v.2.2.2.2.2.2.2.2.2.2.2.2.2.2.2.2.2.2.2.2.2.2.2.2.2.1 v.2.2.2.2.2.2.2.2.2.2.2.2.2.2.2.2.2.2.2.2.2.2.2.2.2.2.1 v.2.2.2.2.2.2.2.2.2.2.2.2.2.2.2.2.2.2.2.2.2.2.2.2.2.2.2.1 v.2.2.2.2.2.2.2.2.2.2.2.2.2.2.2.2.2.2.2.2.2.2.2.2.2.2.2.2.1 v.2.2.2.2.2.2.2.2.2.2.2.2.2.2.2.2.2.2.2.2.2.2.2.2.2.2.2.2.2.1 v.2.2.2.2.2.2.2.2.2.2.2.2.2.2.2.2.2.2.2.2.2.2.2.2.2.2.2.2.2.2.1 v.2.2.2.2.2.2.2.2.2.2.2.2.2.2.2.2.2.2.2.2.2.2.2.2.2.2.2.2.2.2.2.1 v.2.2.2.2.2.2.2.2.2.2.2.2.2.2.2.2.2.2.2.2.2.2.2.2.2.2.2.2.2.2.2.2) L2.all (w, dA, fA, gA, uA, s, p, loose, mean, mg, mb, G0, G, m, Q, E, D, R, N, rs, ys, ps, c0, c1, c2, c3, n, bd, w0, w1, w2, w3, tb) body scope hfn X T C1 C2 hroom hu S n1 hD hc3 n2 hR hP hfin n3 hbd n4 hN hrows hq
end RS
end PartU4

theorem RS.forgetU3 {prog : PySem.Program} {w : PySem.World} {A : PySem.Around} {env : PySem.Env} {Q : PySem.Flow → PySem.Shared → Prop} {E : PySem.Value → PySem.Shared → Prop} {s : PySem.Shared}
    (h : PySem.wpAny (PySem.model prog w) A (PySem.execs [] env) Q E s) : PySem.wpAny (PySem.model prog w) A (PySem.execs [] env) Q E s := by
  first | (walk1; fail "no") | skip
  w_top off
  exact h

section PartU3
open PySem PySem.W PyProof.Rows PySem.Calls
set_option Elab.async false
set_option maxRecDepth 100000
namespace RS
theorem fillU3 : (fun (_ : Params → Frag) (_ : OpenLaw) => True) hd.heap_1 PySem.Challenge.rw_rs0192_01 := by
  k_fill
  trivial
namespace La
abbrev V : Type := (World) × (Nat) × (Option (List Env)) × (Option (List Code)) × (Nat) × (Shared) × (Program) × (List Str) × (ExcName → Option Value) × (Str → Option Value) × (Str → Option Value) × (Heap) × (Value → Shared → Prop) × (Value → Shared → Prop) × (Addr) × (List Value) × (List Int)
def Say (w : World) (dA : Nat) (fA : Option (List Env)) (gA : Option (List Code)) (uA : Nat) (s : Shared) (p : Program) (loose : List Str) (mean : ExcName → Option Value) (mg : Str → Option Value) (mb : Str → Option Value) (g : Heap) (Q : Value → Shared → Prop) (E : Value → Shared → Prop) (a : Addr) (vs : List Value) (ns : List Int) : Prop := ∀ (X : (hd.heap_1 w.params).In g) (T : Top p loose mean mg mb g) (hk : Sub g s.heap) (C1 : CodeHd g 167 163) (C2 : CodeHd g 172 170) (hg1 : g.get? 163 = none) (hg2 : g.get? 170 = none) (ht1 : s.heap.get? 163 = some (tabObj #[])) (ht2 : s.heap.get? 170 = some (tabObj #[])) (hroom : dA + 60 < recursionLimit) (hu : uA + 400 < cLine) (hl : s.heap.IsList a vs.toArray) (hint : IntsAre vs ns) (hlen : ns.length ≤ 63) (hq : ∀ h' d tk gs, (∀ q o, q ≠ 163 → q ≠ 170 → s.heap.get? q = some o → h'.get? q = some o) → (∃ pt, h'.get? 163 = some (tabObj pt)) → (∃ pt, h'.get? 170 = some (tabObj pt)) → (AllBare s.gens → AllBare gs) →
      Q (.bool true) { s with heap := h', drawn := d, toks := tk, gens := gs }),
    wpAny (model PG w) (Around.mk none dA fA gA uA) (call (.ref 173) [.ref a]) Q E s
theorem ne : Nonempty V := ⟨((Classical.choice neW), 0, none, none, 0, {}, default, [], (fun _ => none), (fun _ => none), (fun _ => none), {}, (fun _ _ => True), (fun _ _ => True), 0, [], [])⟩
noncomputable def c : V := pick ne fun v => Say v.1 v.2.1 v.2.2.1 v.2.2.2.1 v.2.2.2.2.1 v.2.2.2.2.2.1 v.2.2.2.2.2.2.1 v.2.2.2.2.2.2.2.1 v.2.2.2.2.2.2.2.2.1 v.2.2.2.2.2.2.2.2.2.1 v.2.2.2.2.2.2.2.2.2.2.1 v.2.2.2.2.2.2.2.2.2.2.2.1 v.2.2.2.2.2.2.2.2.2.2.2.2.1 v.2.2.2.2.2.2.2.2.2.2.2.2.2.1 v.2.2.2.2.2.2.2.2.2.2.2.2.2.2.1 v.2.2.2.2.2.2.2.2.2.2.2.2.2.2.2.1 v.2.2.2.2.2.2.2.2.2.2.2.2.2.2.2.2
@[irreducible] noncomputable def w : World := c.1
@[irreducible] noncomputable def dA : Nat := c.2.1
@[irreducible] noncomputable def fA : Option (List Env) := c.2.2.1
@[irreducible] noncomputable def gA : Option (List Code) := c.2.2.2.1
@[irreducible] noncomputable def uA : Nat := c.2.2.2.2.1
@[irreducible] noncomputable def s : Shared := c.2.2.2.2.2.1
@[irreducible] noncomputable def p : Program := c.2.2.2.2.2.2.1
@[irreducible] noncomputable def loose : List Str := c.2.2.2.2.2.2.2.1
@[irreducible] noncomputable def mean : ExcName → Option Value := c.2.2.2.2.2.2.2.2.1
@[irreducible] noncomputable def mg : Str → Option Value := c.2.2.2.2.2.2.2.2.2.1
@[irreducible] noncomputable def mb : Str → Option Value := c.2.2.2.2.2.2.2.2.2.2.1
@[irreducible] noncomputable def g : Heap := c.2.2.2.2.2.2.2.2.2.2.2.1
@[irreducible] noncomputable def Q : Value → Shared → Prop := c.2.2.2.2.2.2.2.2.2.2.2.2.1
@[irreducible] noncomputable def E : Value → Shared → Prop := c.2.2.2.2.2.2.2.2.2.2.2.2.2.1
@[irreducible] noncomputable def a : Addr := c.2.2.2.2.2.2.2.2.2.2.2.2.2.2.1
@[irreducible] noncomputable def vs : List Value := c.2.2.2.2.2.2.2.2.2.2.2.2.2.2.2.1
@[irreducible] noncomputable def ns : List Int := c.2.2.2.2.2.2.2.2.2.2.2.2.2.2.2.2
set_option maxHeartbeats 2000000 in
theorem spec_c : Say w dA fA gA uA s p loose mean mg mb g Q E a vs ns := by
  intro X T hk C1 C2 hg1 hg2 ht1 ht2 hroom hu hl hint hlen hq
  refine wpAny_call ?_
  refine' enterV (K := hd.heap_1 w.params) [(163, tabObj #[]), (170, tabObj #[])] (List.forall_mem_cons.mpr ⟨ht1, List.forall_mem_cons.mpr ⟨ht2, fun _ h => nomatch h⟩⟩) (by simp) X T hk (binds := [("script", .ref a)]) ?ho ?hcd ?hroom ?hb ?hkind ?hnd ?c1 ?c2 ?c3 ?_
  case ho => k_is
  case hcd => k_is
  case hroom => dsimp only; lia
  case hb => exact bindsTo_peek (X.keeps hk) (fun S => by kernel_rfl)
  case hkind => exact kindsX (by rfl)
  case hnd => decide +kernel
  case c1 => exact rfl
  case c2 => exact rfl
  case c3 => exact rfl
  intro h₁ tk₁ S0 k₀
  have hmem : ∀ q, q ∈ List.map (fun x : Addr × Obj => x.1) [(163, tabObj #[]), (170, tabObj #[])] → q = 163 ∨ q = 170 := fun q z => by simpa using z
  have hg0 : Sub g (hideAll s.heap (List.map (fun x : Addr × Obj => x.1) [(163, tabObj #[]), (170, tabObj #[])])) := fun q o e => hideAll_get _ (hk q o e) (fun z => by
    rcases hmem q z with rfl | rfl
    · rw [hg1] at e; cases e
    · rw [hg2] at e; cases e)
  generalize hm0 : (fun y => List.lookup y [(Str.ofString "script", Value.ref a)].reverse) = m0 at S0
  have n1 : m0 "script" = some (.ref a) := by rw [← hm0]; rfl
  have X' := X.keeps hg0
  have T' := T.keeps hg0
  have C1' := C1.keeps hg0
  have C2' := C2.keeps hg0
  have hG0 : ∀ q o, q ≠ 163 → q ≠ 170 → s.heap.get? q = some o → (hideAll s.heap (List.map (fun x : Addr × Obj => x.1) [(163, tabObj #[]), (170, tabObj #[])])).get? q = some o := fun q o hq1 hq2 e => hideAll_get _ e (fun z => by
    rcases hmem q z with rfl | rfl
    · exact hq1 rfl
    · exact hq2 rfl)
  have L0 : (hideAll s.heap (List.map (fun x : Addr × Obj => x.1) [(163, tabObj #[]), (170, tabObj #[])])).IsList a vs.toArray := hl.at fun o e => hG0 _ _ (by
    intro ea
    obtain ⟨o, e1, e2, _⟩ := hl
    rw [ea, ht1] at e1; cases e1; cases e2) (by
    intro ea
    obtain ⟨o, e1, e2, _⟩ := hl
    rw [ea, ht2] at e1; cases e1; cases e2) e
  generalize hideAll s.heap (List.map (fun x : Addr × Obj => x.1) [(163, tabObj #[]), (170, tabObj #[])]) = G0 at S0 X' T' hg0 hG0 C1' C2' L0
  clear X T hg0 C1 C2 hmem
  have S1 : Fm G0 _ _ _ _ _ := ⟨S0, Sub.refl _⟩
  clear S0 hm0
  have hvl : vs.length = ns.length := hint.length
  refine wpAny_execs_cons ?_
  refine FmB S1 rfl rfl rfl (BlockOk.of (by decide +kernel) (List.forall_mem_cons.mpr ⟨⟨rfl, rfl⟩, fun _ h => nomatch h⟩)) rfl rfl rfl ?_
  refine LCc (n := 4) (B := BEnumI "place" "base" [0, 5, 0, 12]) ["place", "base"] (fun i => .int (([0, 5, 0, 12].getD i 0 + (pickNums ns (some (i : Int)) (some 60) (some 4)).sum) % 1000000)) S1.s.v (by decide) BEnumI.tg (List.forall_mem_cons.mpr ⟨.inl rfl, List.forall_mem_cons.mpr ⟨.inl rfl, fun _ h => nomatch h⟩⟩) (by decide) ?_ (fun C i s₃ bs hC hi hb k3 V3 bare => ?_) (fun D ys h' gs tk hc hD hDL k' V' bare0 => ⟨k', fun G2 h2 tk2 m2 S2 e2 f2 g2 new2 => ?_⟩)
  · k_steps
    refine Stop.go (wpAny_newList ?_)
    k_steps
    refine Stop.go ?_
    refine @enumI _ _ _ _ _ _ _ _ [.int 0 tk₁, .int 5 (tk₁ + 1), .int 0 (tk₁ + 1 + 1), .int 12 (tk₁ + 1 + 1 + 1)] [0, 5, 0, 12] ?_ ?_ ?_ ?_ ?_ _ _ _ _ _ _
    · rfl
    · exact fun b o e => Heap.get?_push_of_some _ e
    · rw [Heap.size_push]; exact Nat.le_succ _
    · exact DL.lst ⟨0, Heap.get?_push_size _ rfl⟩
    · exact .cons _ _ (.cons _ _ (.cons _ _ (.cons _ _ .nil)))
  · obtain ⟨t, u, rfl⟩ := hb
    obtain ⟨M, V, e1, e2⟩ := V3
    have e3 : M "place" = some (.int (i : Int) t) := e1 _ (.head _)
    have e4 : M "base" = some (.int ([0, 5, 0, 12].getD i 0) u) := e1 _ (.tail _ (.head _))
    have e2 := (e2 "script" rfl).trans n1
    have B : Bas G0 s₃.heap := S1.kb.trans k3
    refine wpAny_mono (Q := fun v s' => Stop (Post s₃ (fun y _ => Carried y (.int (([0, 5, 0, 12].getD i 0 + (pickNums ns (some (i : Int)) (some 60) (some 4)).sum) % 1000000))) v s')) ?_ (fun _ _ x => x) (fun _ _ x => x)
    k_steps
    refine Stop.go (slice3L (L0.at fun o e => B _ _ e) hint (.int _ _) (.int _ _) (.int _ _) (by decide) (fun D h' ws k' hD hDL hI => ?_) (by rw [sizeLine_eq]; lia))
    dsimp only at k' hD ⊢
    k_steps
    refine Stop.go (sumL rfl hDL.lst hI fun h'' tk'' t'' k'' => ?_)
    k_steps
    refine Stop.go ⟨_, _, _, rfl, ⟨k'.trans k'', id⟩, ?_⟩
    rw [show ∀ z : Int, z.fmod (10 ^ Int.toNat 6) = z % 1000000 from fun z => Int.fmod_eq_emod_of_nonneg z (by decide)]
    exact .int _ _
  dsimp only at hc hD k' bare0 S2 new2 ⊢
  have n1 := (f2 "script" (by decide)).trans n1
  have hDG : DL G2 D ys := hDL.at fun o e => new2 D o hD e
  have hI : IntsAre ys ((List.range 4).map fun i : Nat => ([0, 5, 0, 12].getD i 0 + (pickNums ns (some (i : Int)) (some 60) (some 4)).sum) % 1000000) := ints_of_carried (by rw [List.map_map]; exact hc)
  obtain ⟨c0, c1, c2, c3, hcs, hb0, hb1, hb2, hb3⟩ : ∃ c0 c1 c2 c3 : Nat, ((List.range 4).map fun i : Nat => ([0, 5, 0, 12].getD i 0 + (pickNums ns (some (i : Int)) (some 60) (some 4)).sum) % 1000000) = [(c0 : Int), (c1 : Int), (c2 : Int), (c3 : Int)] ∧ c0 < 1000000 ∧ c1 < 1000000 ∧ c2 < 1000000 ∧ c3 < 1000000 := by
    have key : ∀ z : Int, ∃ c : Nat, z % 1000000 = (c : Int) ∧ c < 1000000 := fun z => ⟨(z % 1000000).toNat, by lia, by lia⟩
    obtain ⟨c0, e0, z0⟩ := key ([0, 5, 0, 12].getD 0 0 + (pickNums ns (some ((0 : Nat) : Int)) (some 60) (some 4)).sum)
    obtain ⟨c1, e1, z1⟩ := key ([0, 5, 0, 12].getD 1 0 + (pickNums ns (some ((1 : Nat) : Int)) (some 60) (some 4)).sum)
    obtain ⟨c2, e2, z2⟩ := key ([0, 5, 0, 12].getD 2 0 + (pickNums ns (some ((2 : Nat) : Int)) (some 60) (some 4)).sum)
    obtain ⟨c3, e3, z3⟩ := key ([0, 5, 0, 12].getD 3 0 + (pickNums ns (some ((3 : Nat) : Int)) (some 60) (some 4)).sum)
    exact ⟨c0, c1, c2, c3, by rw [← e0, ← e1, ← e2, ← e3]; rfl, z0, z1, z2, z3⟩
  rw [hcs] at hI
  clear hcs hc hDL f2 new2 V' hD S1
  obtain ⟨v0, v1, v2, v3, w0, w1, w2, w3, rfl, rfl, rfl, rfl, rfl⟩ : ∃ v0 v1 v2 v3 w0 w1 w2 w3, ys = [v0, v1, v2, v3] ∧ v0 = .int (c0 : Int) w0 ∧ v1 = .int (c1 : Int) w1 ∧ v2 = .int (c2 : Int) w2 ∧ v3 = .int (c3 : Int) w3 := by
    cases hI with | cons _ _ hI => cases hI with | cons _ _ hI => cases hI with | cons _ _ hI => cases hI with | cons _ _ hI => cases hI; exact ⟨_, _, _, _, _, _, _, _, rfl, rfl, rfl, rfl, rfl⟩
  clear hI
  k_steps
  refine Stop.go ?_
  have hD2 : ∀ (h' : Heap), Sub G2 h' → h'.IsList D [Value.int (c0 : Int) w0, Value.int (c1 : Int) w1, Value.int (c2 : Int) w2, Value.int (c3 : Int) w3].toArray := fun h' k => hDG.lst.at fun o e => k _ _ e
  refine item_list (v := .int (c0 : Int) w0) (hD2 _ S2.s.sub) (by decide) (by decide) rfl ?_
  k_steps
  refine Stop.go ?_
  refine item_list (v := .int (c1 : Int) w1) (hD2 _ S2.s.sub) (by decide) (by decide) rfl ?_
  k_steps
  refine Stop.go ?_
  refine item_list (v := .int (c2 : Int) w2) (hD2 _ S2.s.sub) (by decide) (by decide) rfl ?_
  k_steps
  · exact X'.keeps S2.kb
  refine Stop.go ?_
  refine rulers_spec X' T' S2.kb rfl (by show dA + 1 + 20 < _; lia) (by show uA + 3 + 200 < _; lia) (by lia) (by lia) (by lia) fun R rs ps h3 tk3 gs3 hR hP hfin hRn k3 bare3 => ?_
  dsimp only at hRn k3 bare3 ⊢
  obtain ⟨G3, S3, g3, new3⟩ := S2.up (h' := h3) k3
  obtain ⟨G3', S3', g3', sq3⟩ := S3.seqs (List.forall_mem_cons.mpr ⟨fun _ _ z => (by cases z), List.forall_mem_cons.mpr ⟨fun _ _ z => (by cases z), fun _ h => nomatch h⟩⟩)
  have hR3 : DL G3' R rs := hR.at fun o e => g3' _ _ (new3 _ _ hRn e)
  have hP3 : PairsAre G3' rs ps := hP.seqs sq3
  have hbare3 : AllBare s.gens → AllBare gs3 := fun z => bare3 (bare0 z)
  clear new3 hR S2 hRn S3 sq3 hP
  k_steps
  refine Stop.go ?_
  refine Fm.stC S3' rfl rfl rfl fun h4 tk4 m4 S4 e4 f4 => ?_
  have n1 := (f4 "script" (by decide)).trans n1
  have e2 := (f4 "cells" (by decide)).trans e2
  have hDG : DL G3' D [Value.int (c0 : Int) w0, Value.int (c1 : Int) w1, Value.int (c2 : Int) w2, Value.int (c3 : Int) w3] := hDG.at fun o e => g3' _ _ (g3 _ _ e)
  clear S3' f4 hD2
  have hps5 := hfin.1
  have hrl : rs.length = ps.length := hP3.1
  dsimp only at e4 ⊢
  k_steps
  refine Stop.go ?_
  refine Fm.stC S4 rfl rfl rfl fun h5 tk5 m5 S5 e5 f5 => ?_
  have n1 := (f5 "script" (by decide)).trans n1
  have e2 := (f5 "cells" (by decide)).trans e2
  have e4 := (f5 "rulers" (by decide)).trans e4
  rw [show (2 : Int) ^ ((rs.length : Int)).toNat = ((2 ^ ps.length : Nat) : Int) by rw [Int.toNat_natCast, hrl]; simp] at e5
  obtain ⟨bd, hbd⟩ : ∃ bd, 2 ^ ps.length = bd := ⟨_, rfl⟩
  have hbd1 : 1 ≤ bd ∧ bd ≤ 32 := by
    rw [← hbd]
    rcases (by lia : ps.length = 0 ∨ ps.length = 1 ∨ ps.length = 2 ∨ ps.length = 3 ∨ ps.length = 4 ∨ ps.length = 5) with e | e | e | e | e | e <;> rw [e] <;> decide
  rw [hbd] at e5
  clear S4 f5
  dsimp only at e5 ⊢
  refine wpAny_execs_cons ?_
  refine FmB S5 rfl rfl rfl (BlockOk.of (by decide +kernel) (List.forall_mem_cons.mpr ⟨⟨rfl, rfl⟩, List.forall_mem_cons.mpr ⟨⟨rfl, rfl⟩, fun _ h => nomatch h⟩⟩)) rfl rfl rfl ?_
  refine LCr (n := rs.length) (B := BEnum "place" "ruler" rs) ["place", "ruler"] (fun i => (mksOf (ps.getD i (0, 0)).1.toNat (ps.getD i (0, 0)).2.toNat bd).map .int) S5.s.v (by rw [sizeLine_eq]; lia) BEnum.tg (List.forall_mem_cons.mpr ⟨.inl rfl, List.forall_mem_cons.mpr ⟨.inl rfl, fun _ h => nomatch h⟩⟩) (by decide) ?_ (fun C i s₃ bs hC hi hb k3 V3 bare => ?_) (fun N ys h' gs tk hrows hN hDL k' V' bare0 => ⟨k', fun G6 h6 tk6 m6 S6 e6 f6 g6 new6 => ?_⟩)
  · k_steps
    refine Stop.go ?_
    exact enumS rfl (Sub.refl _) (Nat.le_refl _) (hR3.lst.at fun o e => S5.s.sub _ _ e) _ _ _ _ _ _
  · obtain ⟨_, b, rfl, t, rfl, hb⟩ := hb
    obtain ⟨M, V, e1, e3⟩ := V3
    have q1 : M "place" = some (.int (i : Int) t) := e1 _ (.head _)
    have q2 : M "ruler" = some b := e1 _ (.tail _ (.head _))
    have q3 := (e3 "bound" rfl).trans e5
    have q4 := (e3 "cells" rfl).trans e2
    have B : Bas G0 s₃.heap := S5.kb.trans k3
    have BG : Sub G3' s₃.heap := S5.s.sub.trans k3
    obtain ⟨rb, pr, tr, ur, rfl, hT, hpi⟩ := hP3.2 i b hb
    obtain ⟨r1, r2, r3⟩ := hfin.2 pr (List.mem_of_getElem? hpi)
    rw [show ps.getD i (0, 0) = pr by rw [List.getD_eq_getElem?_getD, hpi]; rfl]
    obtain ⟨x, y⟩ := pr
    dsimp only at hT r1 r2 r3 ⊢
    obtain ⟨xn, rfl⟩ := Int.eq_ofNat_of_zero_le (show 0 ≤ x by lia)
    obtain ⟨yn, rfl⟩ := Int.eq_ofNat_of_zero_le (show 0 ≤ y by lia)
    simp only [Int.toNat_natCast]
    have hTs := hT.at fun o e => BG _ _ e
    have hDs : s₃.heap.IsList D [Value.int (c0 : Int) w0, Value.int (c1 : Int) w1, Value.int (c2 : Int) w2, Value.int (c3 : Int) w3].toArray := hDG.lst.at fun o e => BG _ _ e
    clear hT hP3 hR3 hDG S5
    refine wpAny_mono (Q := fun v s' => Stop (Post s₃ (fun y' h' => ∃ b ws, y' = .ref b ∧ s₃.heap.get? b = none ∧ DL h' b ws ∧ CarriedAll ws ((mksOf xn yn bd).map .int)) v s')) ?_ (fun _ _ x => x) (fun _ _ x => x)
    k_steps
    refine Stop.go ?_
    refine item_pair hTs (.inl ⟨rfl, rfl⟩) ?_
    k_steps
    refine Stop.go ?_
    refine item_pair hTs (.inr ⟨rfl, rfl⟩) ?_
    k_steps
    refine Stop.go ?_
    · exact X'.keeps B
    refine Stop.go ?_
    rw [show ((i : Int) + [(c0 : Int), (c1 : Int), (c2 : Int), (c3 : Int)].getD (Int.toNat 3) 0) % 3 = (((i + c3) % 3 : Nat) : Int) by show ((i : Int) + (c3 : Int)) % 3 = _; lia]
    refine marks_spec X' T' B rfl (by show dA + 1 + 20 < _; lia) (by lia) (by lia) (by lia) (by lia) (by lia) (by lia) fun Dm vm nm hm tkm gsm hm1 hm2 hm3 hm4 hm5 => ?_
    exact Stop.go ⟨_, _, _, rfl, ⟨hm4, hm5⟩, Dm, vm, rfl, hm3, ⟨nm, hm1⟩, carried_of_ints hm2⟩
  · dsimp only at hN k' bare0 S6 new6 ⊢
    have hrows6 := hrows G6 new6
    have n2 := (f6 "cells" (by decide)).trans e2
    have n3 := (f6 "rulers" (by decide)).trans e4
    have n4 := (f6 "bound" (by decide)).trans e5
    refine' law_of (K := hd.heap_1 w.params) ?hfn ?_
    case hfn => exact ⟨_, _, _, _, _, _, _, _, _, _, _, _, _, by k_is⟩
    intro hfn
    refine law2 (n := s.heap.objs.size) hfn X' T' C1' C2' rfl ?hroom ?hu S6 n2 (hDG.at fun o e => g6 _ _ e) hb3 n3 (hR3.at fun o e => g6 _ _ e) (hP3.keeps g6) hfin n4 hbd e6 (hDL.at fun o e => new6 _ _ hN e) ?hr (fun h' d tk gs k1 k2 k4 k5 => ?_)
    case hroom => show dA + 1 + 50 < _; lia
    case hu => show uA + 3 + 350 < _; lia
    case hr =>
      have e : (List.range rs.length).map (fun i => (mksOf (ps.getD i (0, 0)).1.toNat (ps.getD i (0, 0)).2.toNat bd).map PyData.int) = ps.map fun q => (mksOf q.1.toNat q.2.toNat bd).map PyData.int := by
        rw [hrl]
        apply List.ext_getElem?
        intro i
        rw [List.getElem?_map, List.getElem?_map]
        by_cases h : i < ps.length
        · rw [List.getElem?_range h, List.getElem?_eq_getElem h]
          simp [List.getD_eq_getElem?_getD, List.getElem?_eq_getElem h]
        · rw [List.getElem?_eq_none (by simpa using h), List.getElem?_eq_none (by lia)]; rfl
      exact e ▸ hrows6
    · exact hq h' d tk gs (fun q o z1 z2 e => k1 _ _ (hG0 q o z1 z2 e)) k2 k4 (fun z => k5 (bare0 (hbare3 z)))
theorem all : Say c.1 c.2.1 c.2.2.1 c.2.2.2.1 c.2.2.2.2.1 c.2.2.2.2.2.1 c.2.2.2.2.2.2.1 c.2.2.2.2.2.2.2.1 c.2.2.2.2.2.2.2.2.1 c.2.2.2.2.2.2.2.2.2.1 c.2.2.2.2.2.2.2.2.2.2.1 c.2.2.2.2.2.2.2.2.2.2.2.1 c.2.2.2.2.2.2.2.2.2.2.2.2.1 c.2.2.2.2.2.2.2.2.2.2.2.2.2.1 c.2.2.2.2.2.2.2.2.2.2.2.2.2.2.1 c.2.2.2.2.2.2.2.2.2.2.2.2.2.2.2.1 c.2.2.2.2.2.2.2.2.2.2.2.2.2.2.2.2 := by
  have h := spec_c
  unfold w dA fA gA uA s p loose mean mg mb g Q E a vs ns at h
  exact h
end La
theorem law_spec {w : World} {A : Around} {s : Shared} {p : Program} {loose : List Str} {mean : ExcName → Option Value} {mg mb : Str → Option Value} {g : Heap}
    {Q E : Value → Shared → Prop} {a : Addr} {vs : List Value} {ns : List Int}
    (X : (hd.heap_1 w.params).In g) (T : Top p loose mean mg mb g) (hk : Sub g s.heap) (C1 : CodeHd g 167 163) (C2 : CodeHd g 172 170) (hg1 : g.get? 163 = none) (hg2 : g.get? 170 = none) (ht1 : s.heap.get? 163 = some (tabObj #[])) (ht2 : s.heap.get? 170 = some (tabObj #[]))
    (hh : A.handled = none) (hroom : A.depth + 60 < recursionLimit) (hu : A.units + 400 < cLine) (hl : s.heap.IsList a vs.toArray) (hint : IntsAre vs ns) (hlen : ns.length ≤ 63)
    (hq : ∀ h' d tk gs, (∀ q o, q ≠ 163 → q ≠ 170 → s.heap.get? q = some o → h'.get? q = some o) → (∃ pt, h'.get? 163 = some (tabObj pt)) → (∃ pt, h'.get? 170 = some (tabObj pt)) → (AllBare s.gens → AllBare gs) →
      Q (.bool true) { s with heap := h', drawn := d, toks := tk, gens := gs }) :
    wpAny (model PG w) A (call (.ref 173) [.ref a]) Q E s := by
  obtain ⟨hA, dA, fA, gA, uA⟩ := A
  dsimp only at hh
  subst hh
  exact of_pick La.ne (fun v => La.Say v.1 v.2.1 v.2.2.1 v.2.2.2.1 v.2.2.2.2.1 v.2.2.2.2.2.1 v.2.2.2.2.2.2.1 v.2.2.2.2.2.2.2.1 v.2.2.2.2.2.2.2.2.1 v.2.2.2.2.2.2.2.2.2.1 v.2.2.2.2.2.2.2.2.2.2.1 v.2.2.2.2.2.2.2.2.2.2.2.1 v.2.2.2.2.2.2.2.2.2.2.2.2.1 v.2.2.2.2.2.2.2.2.2.2.2.2.2.1 v.2.2.2.2.2.2.2.2.2.2.2.2.2.2.1 v.2.2.2.2.2.2.2.2.2.2.2.2.2.2.2.1 v.2.2.2.2.2.2.2.2.2.2.2.2.2.2.2.2) La.all (w, dA, fA, gA, uA, s, p, loose, mean, mg, mb, g, Q, E, a, vs, ns) X T hk C1 C2 hg1 hg2 ht1 ht2 hroom hu hl hint hlen hq
end RS
end PartU3

end Shared1
end Shared0
section PartF0
open PySem PySem.W PyProof.Rows PySem.Calls PySem.Spec
set_option Elab.async false
set_option maxRecDepth 100000
namespace RS
set_option maxHeartbeats 2000000 in
theorem fin : PySem.Challenge.rw_rs0192_01.Holds := by
  refine hd ⟨hdL, ?_⟩
  k_fill
  intro w s₀ s₁ mg mb G Y fa o pm cd doc dV kV ho hd' hcd hD hmg hg args vals as hpre hlay hrd hwl hlo
  have KX := km_in_of Y
  km_tabs Y
  have X := (Ground.X G).1
  have V := (Ground.X G).2
  refine Ground.open G ?_
  intro T B D TE TW
  try (refine guard_noD D (by decide +kernel) ?_; clear D)
  km_lay T hmg ho hd' cd
  wrow_args hpre hlay hrd hwl hlo
  have e173 : mg (Str.ofString "law") = some (.ref 173) := mg_of KX T.g (by kernel_rfl)
  obtain rfl : fa = 173 := by
    have := hmg.symm.trans e173
    injection this with this
    injection this
  rename List Int => ns
  rename IntsAre _ _ => hI
  rename Heap.IsList _ _ _ => hL
  rename ¬ _ < _ => hc
  have hG := ghost_code hT9
  have hn : ∀ q, q ∈ List.map (fun x : Addr × Addr => x.2) [(167, 163), (172, 170)] → (ghostOf s₁.heap [(167, 163), (172, 170)]).get? q = none := fun q hq => hideAll_none _ hq
  refine law_spec (ns := ns) (g := ghostOf s₁.heap [(167, 163), (172, 170)]) (ghost_K hT9 KX (by kernel_rfl)) (ghost_top hT9 T) (fun b o e => of_hideAll _ e) hG.1 hG.2.1 (hn 163 (by simp)) (hn 170 (by simp)) (hT8 163 (by simp)) (hT8 170 (by simp)) rfl (by decide +kernel) (by decide +kernel) hL hI (by omega) fun h' d tk gs k1 k2 k3 k4 => ?_
  refine ⟨.inl ⟨_, _, [], rfl, fun _ => rfl, ReadsW.bool true, ?hp, fun _ => ⟨List.nodup_nil, fun _ hm => nomatch hm⟩⟩, ?hk, rfl, k4 ?hb⟩
  case hb => rw [hg]; exact AllBare.empty
  case hp => wrow_post
  case hk =>
    obtain ⟨p1, k2⟩ := k2
    obtain ⟨p2, k3⟩ := k3
    have ht1 := (((hT9 (167, 163) (.head _)).1).tab (hT8 163 (by simp))).isCodeTable
    have ht2 := (((hT9 (172, 170) (.tail _ (.head _))).1).tab (hT8 170 (by simp))).isCodeTable
    refine ⟨fun b o e => ?_, fun b o e => ?_⟩
    · by_cases h1 : b = 163
      · subst h1
        rw [hT8 163 (by simp)] at e
        cases e
        exact .inr (.inl ⟨ht1, rfl, #[], p1, rfl, by rw [Array.empty_append]; exact k2⟩)
      · by_cases h2 : b = 170
        · subst h2
          rw [hT8 170 (by simp)] at e
          cases e
          exact .inr (.inl ⟨ht2, rfl, #[], p2, rfl, by rw [Array.empty_append]; exact k3⟩)
        · exact .inl (k1 b o h1 h2 e)
    · by_cases h1 : b = 163
      · exact ⟨_, h1 ▸ k2⟩
      · by_cases h2 : b = 170
        · exact ⟨_, h2 ▸ k3⟩
        · exact ⟨o, k1 b o h1 h2 e⟩
end RS
end PartF0

theorem PySem.Challenge.cw_rs0192_01_holds : PySem.Challenge.rw_rs0192_01.Holds :=
  RS.fin
