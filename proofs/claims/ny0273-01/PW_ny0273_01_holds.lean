import PyProof.Rows.All
import Wide.All
import OpenK.AllK
import Wide.FinOn
import PySem.Challenge.RW_ny0273_01
set_option Elab.async false
set_option compiler.extract_closed false
set_option maxRecDepth 100000
section
open PySem PySem.W PyProof.Rows
set_option maxHeartbeats 0
namespace Mine
local macro_rules | `(tactic| o_head $_H) => `(tactic| assumption)
theorem hd (h : Challenge.rw_ny0273_01.row.Holds) : Challenge.rw_ny0273_01.row.Holds := by k_head
noncomputable def keepS : Stmt → Bool
  | .Assign [.Name n _] _ _ => n != Str.ofString "__name__"
  | _ => true
noncomputable def viewP : Program := { Challenge.rw_ny0273_01.row.prog with main := { Challenge.rw_ny0273_01.row.prog.main with body := Challenge.rw_ny0273_01.row.prog.main.body.filter keepS } }
noncomputable def addrsK : List Addr := [2, 3, 32, 34, 35, 37, 38, 42, 43, 47, 48, 49, 51, 52, 54, 55, 63, 64, 66, 67, 69, 70, 71, 73, 74, 75, 76, 77, 80, 87, 88, 89, 90, 100, 101, 103, 104, 106, 107, 108, 110, 111, 113, 114, 115, 117, 118, 120, 121, 122, 125, 126, 127, 129, 130, 132, 133, 134, 136, 137, 139, 140, 141, 143, 144, 146, 147, 148, 150, 151, 153, 154, 155, 157, 158, 160, 161, 162, 164, 165, 167, 168, 169, 170, 171, 172, 173, 176, 178, 179, 181, 182, 183, 185, 186, 188, 189, 190, 192, 193, 195, 196, 197, 199, 200, 202, 203, 204, 206, 207, 209, 210, 211, 214, 215, 216, 218, 219, 221, 222, 223, 225, 226, 228, 229, 230, 233, 234, 235, 238, 239, 240, 243, 244, 245, 247, 248, 250, 251, 252, 254, 255, 257, 258, 259, 262, 263]
theorem addrs_is : ∀ P, addrsK = (Mine.hd.heap_1 P).map (·.1) := fun _ => by kernel_rfl
noncomputable abbrev looseK : List Str := [Str.ofString "_twin_re_1", Str.ofString "_twin_re_2", Str.ofString "_NodeInfo"]
noncomputable abbrev hookK : Hook := kHook Mine.hd.heap_1 addrsK addrs_is
theorem left_all : LeftO Challenge.rw_ny0273_01.row.prog viewP looseK (fun s => xlAt viewP [] s && recOk (RowW.records (OpenRow.toRowW Challenge.rw_ny0273_01.row)) s) (Hook.obs hookK) (Hook.val hookK) 3476 := by
  intro w
  show ((Option.bind (importEnds treeTable (opening Challenge.rw_ny0273_01.row.prog) w 3476 (start (opening Challenge.rw_ny0273_01.row.prog)).1 (start (opening Challenge.rw_ny0273_01.row.prog)).2) (fenceModules? Challenge.rw_ny0273_01.row.prog)).bind (topFrom treeTable Challenge.rw_ny0273_01.row.prog w 3476)).map _ = _
  delta topFrom
  simp only [PySem.W.Fast.te14364793385576792824, PySem.W.Fast.te4187177175401517315, PySem.W.Fast.te5923862056798008813, PySem.W.Fast.te14082659384304107361, PySem.W.Fast.te10274390034422433532, PySem.W.Fast.te14289696077712309145, PySem.W.Fast.te1435165496053646825]
  kernel_rfl
end Mine
end
section
open PySem PySem.W PyProof.Rows
namespace Mine
theorem q0 {a b : Prop} (h : a ∧ b) : a := h.1
theorem q1 {a b c : Prop} (h : a ∧ b ∧ c) : b := h.2.1
theorem q2 {a b c d : Prop} (h : a ∧ b ∧ c ∧ d) : c := h.2.2.1
theorem q3 {a b c d e : Prop} (h : a ∧ b ∧ c ∧ d ∧ e) : d := h.2.2.2.1
theorem q4 {a b c d e f : Prop} (h : a ∧ b ∧ c ∧ d ∧ e ∧ f) : e := h.2.2.2.2.1
theorem q5 {a b c d e f g : Prop} (h : a ∧ b ∧ c ∧ d ∧ e ∧ f ∧ g) : f := h.2.2.2.2.2.1
theorem q6 {a b c d e f g i : Prop} (h : a ∧ b ∧ c ∧ d ∧ e ∧ f ∧ g ∧ i) : g := h.2.2.2.2.2.2.1
theorem q7 {a b c d e f g i j : Prop} (h : a ∧ b ∧ c ∧ d ∧ e ∧ f ∧ g ∧ i ∧ j) : i := h.2.2.2.2.2.2.2.1
theorem q8 {a b c d e f g i j k : Prop} (h : a ∧ b ∧ c ∧ d ∧ e ∧ f ∧ g ∧ i ∧ j ∧ k) : j := h.2.2.2.2.2.2.2.2.1
theorem q9 {a b c d e f g i j k l : Prop} (h : a ∧ b ∧ c ∧ d ∧ e ∧ f ∧ g ∧ i ∧ j ∧ k ∧ l) : k := h.2.2.2.2.2.2.2.2.2.1
theorem z1 {a b : Prop} (h : a ∧ b) : b := h.2
theorem z2 {a b c : Prop} (h : a ∧ b ∧ c) : c := h.2.2
theorem z3 {a b c d : Prop} (h : a ∧ b ∧ c ∧ d) : d := h.2.2.2
theorem z4 {a b c d e : Prop} (h : a ∧ b ∧ c ∧ d ∧ e) : e := h.2.2.2.2
theorem z5 {a b c d e f : Prop} (h : a ∧ b ∧ c ∧ d ∧ e ∧ f) : f := h.2.2.2.2.2
theorem z6 {a b c d e f g : Prop} (h : a ∧ b ∧ c ∧ d ∧ e ∧ f ∧ g) : g := h.2.2.2.2.2.2
theorem z7 {a b c d e f g i : Prop} (h : a ∧ b ∧ c ∧ d ∧ e ∧ f ∧ g ∧ i) : i := h.2.2.2.2.2.2.2
theorem up1 {n : Nat} : n < n + 1 := Nat.lt_succ_self n
theorem up2 {n : Nat} : n < n + 1 + 1 := Nat.lt_succ_of_lt up1
theorem up3 {n : Nat} : n < n + 1 + 1 + 1 := Nat.lt_succ_of_lt up2
theorem ne_lt {a b : Nat} (h : a < b) : a ≠ b := Nat.ne_of_lt h
theorem ne_gt {a b : Nat} (h : b < a) : a ≠ b := Nat.ne_of_gt h
theorem ne_sym {a b : Nat} (h : b ≠ a) : a ≠ b := Ne.symm h
theorem nat_nn {n : Nat} : (0 : Int) ≤ (n : Int) := Int.natCast_nonneg n
theorem le_tr {a b c : Nat} (h : a ≤ b) (k : b ≤ c) : a ≤ c := Nat.le_trans h k
theorem lt_tr {a b c : Nat} (h : a < b) (k : b < c) : a < c := Nat.lt_trans h k
theorem int_lt {n b : Nat} {c : Int} (h : n ≤ b) (k : (b : Int) < c) : (n : Int) < c := by omega
theorem or3 {i : Nat} (h : i < 3) : i = 0 ∨ i = 1 ∨ i = 2 := by omega
theorem or4 {i : Nat} (h : i < 4) : i = 0 ∨ i = 1 ∨ i = 2 ∨ i = 3 := by omega
theorem ior3 {z : Int} (h : -1 ≤ z ∧ z ≤ 1) : z = -1 ∨ z = 0 ∨ z = 1 := by omega
theorem in3 {x : Int} : 0 ≤ x % 3 ∧ x % 3 < 3 := by omega
theorem in75 {x : Int} : 0 ≤ x % 75 ∧ x % 75 < 75 := by omega
theorem mod3 {n : Nat} : n % 3 < 3 := Nat.mod_lt _ (by decide)
theorem div9 {n : Nat} (h : n < 27) : n / 9 < 3 := by omega
theorem lt_nw {j n : Nat} (h : j < n + 1) (k : ¬ j = n) : j < n := by omega
theorem le_up {a b : Nat} (h : a ≤ b) : a ≤ b + 1 := Nat.le_succ_of_le h
theorem le_dn {a b : Nat} (h : a + 1 ≤ b) : a ≤ b := Nat.le_of_succ_le h
theorem add_sw {a b c : Nat} (h : a + (b + 1) = c) : a + 1 + b = c := by omega
theorem nlt_le {a b : Nat} (h : ¬ a < b) : b ≤ a := Nat.le_of_not_lt h
theorem add_eq_lt {a b c : Nat} (h : a + (b + 1) = c) : a < c := by omega
theorem int_big {x : Int} {c : Int} (h : 0 ≤ x ∧ x < c) (k : c ≤ 2 ^ 63) : x < 2 ^ 63 := by omega
theorem le_up1 {n : Nat} : n ≤ n + 1 := Nat.le_succ n
theorem add3 {x y : Nat} : x + 1 + y = x + y + 1 := by omega
/-- small closers ahead of omega -/
def om : Lean.MacroM (Lean.TSyntax `tactic) := do
  let fs : List Lean.Name := [`Mine.q0, `Mine.q1, `Mine.q2, `Mine.q3, `Mine.q4, `Mine.q5, `Mine.q6, `Mine.q7, `Mine.q8, `Mine.q9, `Mine.z1, `Mine.z2, `Mine.z3, `Mine.z4, `Mine.z5, `Mine.z6, `Mine.z7]
  let asm ← `(term| (by assumption))
  let mut ex : Array (Lean.TSyntax `Lean.Parser.Tactic.tacticSeq) := #[]
  for f in fs do
    ex := ex.push (← `(Lean.Parser.Tactic.tacticSeq| exact $(Lean.mkIdent f) $asm))
  let one : Lean.TSyntax `tactic ← `(tactic| first | assumption $[| $ex]*)
  let lt ← `(tactic| first | exact up1 | exact up2 | exact up3 | $one:tactic)
  `(tactic| with_reducible first | decide | exact nat_nn | (refine neN ?_; first | (refine ne_gt ?_; $lt:tactic) | (refine ne_lt ?_; $lt:tactic) | $one:tactic | (refine ne_sym ?_; $one:tactic) | exact ne_gt (lt_tr $asm $asm) | exact ne_lt (lt_tr $asm $asm)) | (refine ltN ?_; $lt:tactic) | (refine Or.inl ?_; $lt:tactic) | (refine Or.inr ?_; $lt:tactic) | exact lt_tr $asm $asm | exact Nat.min_le_right _ _ | exact le_tr $asm (by decide) | exact int_lt $asm (by decide) | exact or3 $asm | exact or3 mod3 | exact mod3 | exact in3 | exact in75 | exact int_big $asm (by decide) | exact add_sw $asm | exact add_eq_lt $asm | exact nlt_le $asm | exact lt_nw $asm $asm | exact le_up $asm | exact le_dn $asm | exact or4 $asm | exact ior3 $asm | exact div9 $asm | exact le_up1 | exact add3 | fail "om")
end Mine
end
local macro_rules | `(tactic| omega) => Mine.om
section
open PySem PySem.W PyProof.Rows PySem.Calls
set_option maxHeartbeats 1000000
namespace Mine
noncomputable abbrev TopH (mean : ExcName → Option Value) (mg mb : Str → Option Value) (h : Heap) : Prop :=
  Top Mine.viewP (looseW Mine.viewP [Str.ofString "_twin_re_1", Str.ofString "_twin_re_2", Str.ofString "_NodeInfo"]) mean mg mb h

/-- the surroundings of a call of rank r: room enough for every call of lower rank -/
@[reducible] noncomputable def AA (r : Nat) (outer : List Env) : Around := { handled := none, depth := 900 - 100 * r, frames := some outer, guards := some [], units := 9000 - 1000 * r }

structure Cx (w : World) (mean : ExcName → Option Value) (mg mb : Str → Option Value) (r : Nat) (base : Heap) (outer : List Env) (g : Heap) : Prop where
  B : Below (AA r outer) base outer g
  X : (Mine.hd.heap_1 w.params).In g
  T : TopH mean mg mb g

noncomputable def Keeps (h h' : Heap) : Prop := ∀ b o, h.get? b = some o → h'.get? b = some o
theorem Keeps.rfl' {h : Heap} : Keeps h h := fun _ _ e => e
theorem Keeps.trans {a b c : Heap} (x : Keeps a b) (y : Keeps b c) : Keeps a c := fun p o e => y p o (x p o e)
theorem Keeps.list {h h' : Heap} {l : Addr} {items : Array Value} (k : Keeps h h') (x : h.IsList l items) : h'.IsList l items := stays_list k x
theorem Keeps.tup {h h' : Heap} {l : Addr} {items : Array Value} (k : Keeps h h') (x : IsTup h l items) : IsTup h' l items := IsTup.keeps x k

section
variable {prog : Program} {w : World} {mean : ExcName → Option Value} {mg mb : Str → Option Value} {r : Nat} {base : Heap} {outer : List Env} {s : Shared}

theorem Cx.keeps {g g' : Heap} (C : Cx w mean mg mb r base outer g) (k : Keeps g g') : Cx w mean mg mb r base outer g' :=
  ⟨⟨C.B.stack, fun b o e => k b o (C.B.stays b o e), C.B.frames.of_keeps fun b o e _ => ⟨o, k b o e, rfl⟩⟩, C.X.keeps k, C.T.keeps k⟩

theorem wp_weaken {α : Type} {M : Model} {A : Around} {t : Sem α} {Q : α → Shared → Prop} {E : Value → Shared → Prop} {s : Shared} (d u : Nat)
    (h : wpAny M { A with depth := d, units := u } t Q E s) (hd : A.depth ≤ d) (hu : A.units ≤ u) : wpAny M A t Q E s :=
  fun Γ p hΓ => h Γ p ⟨hΓ.1, Nat.le_trans hΓ.2.1 hd, hΓ.2.2.1, hΓ.2.2.2.1, Nat.le_trans hΓ.2.2.2.2 hu⟩

/-- entering a def of the text: the caller's heap, less what it hands over to be changed, is the ground; rb: the parameters, the last first -/
theorem enter {R : Result → Shared → Prop} {name qual : Str} {params : Arguments} {body : List Stmt} {scope : Scope} {dV kV doc pm cdv ct oc : Value} {an od : Option Addr} {osl : Array (Option Value)} {f : Addr} {args : Args} (rb : List (Str × Value))
    (hides : List (Addr × Obj)) (C : Cx w mean mg mb r base outer (hideAll s.heap (hides.map (·.1)))) (hN : ∀ p ∈ hides, s.heap.get? p.1 = some p.2)
    (ho : (Mine.hd.heap_1 w.params).lookup f = some ⟨oc, od, .func (fnOf name qual params body scope dV kV doc pm an cdv ct), osl⟩) (hcd : codeIn (Mine.hd.heap_1 w.params) cdv qual = true)
    (hbind : BindsTo s (fnOf name qual params body scope dV kV doc pm an cdv ct) args rb.reverse) (hloc : ∀ y ∈ rb.reverse, scope.names.lookup y.1 = some .local)
    (hco : scope.isCoroutine = false) (hgen : scope.isGenerator = false) (hk : scope.kind = .function)
    (hcell : ∀ x ∈ scope.names, x.2 ≠ .cell)
    (h : ∀ g L' h₁ tk₁, g = hideAll s.heap (hides.map (·.1)) → Fr g L' h₁ (fun y => rb.lookup y) → News g L' h₁ hides → Below (AA r outer) base outer g → (Mine.hd.heap_1 w.params).In g → TopH mean mg mb g →
      wpAny (model prog w) ((AA r outer).deeper (envOf qual scope L' f cdv)) (execs body (envOf qual scope L' f cdv))
        (fun fl s' => R (.ok (.ret (match fl with | .ret v => v | _ => .none))) s') (fun _ _ => False)
        { s with heap := h₁, toks := tk₁ }) : codeAny (model prog w) (AA r outer) (.call (.ref f) args) R s := by
  have st : Keeps (hideAll s.heap (hides.map (·.1))) s.heap := fun b o e => of_hideAll _ e
  refine codeAny_call_def (fd := fnOf name qual params body scope dV kV doc pm an cdv ct) (body := body) (binds := rb.reverse)
    (by show 900 - 100 * r < 1000; omega) (C.X.keeps st _ _ ho) rfl (C.T.nolimit.keeps st) (codeRec_of (C.X.keeps st) hcd) rfl hbind hcell hloc (fun h₁ hns hk₁ => ?_) hco hgen hk
  rw [List.reverse_reverse] at hns
  refine wpAny_mono (h _ s.heap.objs.size h₁ _ rfl ⟨hns, fun b o e => hk₁ b o (of_hideAll _ e), Nat.le_of_eq (hideAll_size _ _)⟩
    (fun p hp => ⟨hk₁ _ _ (hN p hp), Nat.ne_of_lt (Heap.lt_size (hN p hp)), hideAll_none _ (List.mem_map_of_mem hp)⟩) C.B C.X C.T) (fun _ _ x => x) (fun _ _ x => x.elim)
end
end Mine
end
section
open PySem PySem.W PyProof.Rows PySem.Calls PyProof.Rows.LCg
set_option maxHeartbeats 1000000
namespace Mine
/-- a place where the walk is to stop -/
noncomputable def NxStop (P : Prop) : Prop := P
theorem nx_stop {P : Prop} (h : NxStop P) : P := h
/-- the count of tokens is any number -/
theorem tok_any {α : Type} {M : Model} {A : Around} {t : Sem α} {Q : α → Shared → Prop} {E : Value → Shared → Prop} {h : Heap} {gs : Array GenState} {dr : Drawn} {n : Nat} {os : OsState} (H : ∀ tk : Nat, wpAny M A t Q E ⟨h, gs, dr, tk, os⟩) : wpAny M A t Q E ⟨h, gs, dr, n, os⟩ := H n
/-- what a hint of the walk does, by the list of hints that a text gives -/
def wk (spec : String) (s : Lean.TSyntax `str) : Lean.MacroM (Lean.TSyntax `tactic) :=
  let k := s.getString
  if k == "execs cons" || k == "execs nil" then `(tactic| (k_here; (fail_if_success (fail_if_success k_gentoks)); refine tok_any (fun $(Lean.mkIdent `tk) => ?_))) else
  match (spec.splitOn ";").find? (fun e => (((e.splitOn "=").getD 1 "").splitOn "|").contains k) with
  | none => Lean.Macro.throwUnsupported
  | some e => match (e.splitOn "=").headD "" with
    | "S" => `(tactic| (k_here; refine nx_stop ?_))
    | "NM" => `(tactic| (k_here; (refine' ld (by with_reducible assumption) ?nxhv ?_); (case nxhv => walk_at "nx_hv")))
    | "NX" => `(tactic| (k_here; (refine' PySem.W.nameX_L (by with_reducible assumption) ?nxhv ?_); (case nxhv => walk_at "nx_hv")))
    | "ST" => `(tactic| (k_here; (with_reducible show wpAny _ _ (subscriptTail _ _ (Value.ref _) (Value.int _ _)) _ _ _); refine nx_stop ?_))
    | "HV" => `(tactic| first | assumption | exact rfl | (refine Eq.trans (if_neg (by decide)) ?_; walk_at "nx_hv"))
    | "D" => `(tactic| dsimp only [$(Lean.mkIdent (Lean.Name.mkSimple k)):ident])
    | _ => `(tactic| refine nx_stop ?_)
/-- an end that was given a name -/
theorem post_of {α : Type} {P Q : α → Shared → Prop} {f : α} {s : Shared} (h : P = Q) (x : P f s) : Q f s := h ▸ x
/-- an end gets a name -/
theorem hide_post {α : Type} {M : Model} {A : Around} {t : Sem α} {Q : α → Shared → Prop} {E : Value → Shared → Prop} {s : Shared} (h : ∀ Qb : α → Shared → Prop, Q = Qb → wpAny M A t Qb E s) : wpAny M A t Q E s := h Q rfl
/-- the end of a body behind a store or a test gets a name -/
theorem hide_turn {α : Type} {M : Model} {A : Around} {t : Sem α} {B : Sem Flow} {P : Flow → Shared → Prop} {E E' : Value → Shared → Prop} {s : Shared} (h : ∀ Qb : Flow → Shared → Prop, P = Qb → wpAny M A t (fun _ s₂ => wpAny M A B Qb E' s₂) E s) : wpAny M A t (fun _ s₂ => wpAny M A B P E' s₂) E s := h P rfl
theorem hide_test {M : Model} {A : Around} {t : Sem Bool} {B : Sem Flow} {P : Flow → Shared → Prop} {R : Shared → Prop} {E E' : Value → Shared → Prop} {s : Shared} (h : ∀ Qb : Flow → Shared → Prop, P = Qb → wpAny M A t (fun b s₂ => if b = true then wpAny M A B Qb E' s₂ else R s₂) E s) : wpAny M A t (fun b s₂ => if b = true then wpAny M A B P E' s₂ else R s₂) E s := h P rfl
/-- entries taken by their places, then all from a place on -/
noncomputable def pickT {α : Type} (l : List α) : List Nat → Nat → List α
  | [], k => l.drop k
  | i :: is, k => match l[i]? with | some p => p :: pickT l is k | none => pickT l is k
theorem pickT_sub {α : Type} {l : List α} : ∀ {is : List Nat} {k : Nat}, ∀ p ∈ pickT l is k, p ∈ l
  | [], k => fun p hp => List.mem_of_mem_drop hp
  | i :: is, k => fun p hp => by
    unfold pickT at hp
    cases e : l[i]? with
    | none => rw [e] at hp; exact pickT_sub p hp
    | some q =>
      rw [e] at hp
      rcases List.mem_cons.mp hp with h | h
      · rw [h]; exact List.mem_of_getElem? e
      · exact pickT_sub p h
theorem pick {α : Type} {l l' : List α} {P : α → Prop} (N : ∀ p ∈ l, P p) (is : List Nat) (k : Nat) (e : pickT l is k = l' := by rfl) : ∀ p ∈ l', P p := fun p hp => N p (pickT_sub p (e ▸ hp))
theorem picks {α : Type} {l l' : List α} (is : List Nat) (k : Nat) (e : pickT l is k = l' := by rfl) : ∀ p ∈ l', p ∈ l := fun p hp => pickT_sub p (e ▸ hp)
noncomputable def pick0 {α : Type} (l : List α) : List Nat → List α
  | [] => []
  | i :: is => match l[i]? with | some p => p :: pick0 l is | none => pick0 l is
theorem pick0_sub {α : Type} {l : List α} : ∀ {is : List Nat}, ∀ p ∈ pick0 l is, p ∈ l
  | [] => fun _ hp => nomatch hp
  | i :: is => fun p hp => by
    unfold pick0 at hp
    cases e : l[i]? with
    | none => rw [e] at hp; exact pick0_sub p hp
    | some q =>
      rw [e] at hp
      rcases List.mem_cons.mp hp with h | h
      · rw [h]; exact List.mem_of_getElem? e
      · exact pick0_sub p h
theorem pickn {α : Type} {l l' : List α} {P : α → Prop} (N : ∀ p ∈ l, P p) (is : List Nat) (e : pick0 l is = l' := by rfl) : ∀ p ∈ l', P p := fun p hp => N p (pick0_sub p (e ▸ hp))
theorem list3 {α : Type} {l : List α} (h : l.length = 3) : ∃ a b c, l = [a, b, c] := by
  match l, h with
  | [a, b, c], _ => exact ⟨a, b, c, rfl⟩
theorem list4 {α : Type} {l : List α} (h : l.length = 4) : ∃ a b c d, l = [a, b, c, d] := by
  match l, h with
  | [a, b, c, d], _ => exact ⟨a, b, c, d, rfl⟩
theorem mem_rot {α : Type} {a : α} {l r : List α} {P : α → Prop} (N : ∀ p ∈ a :: (l ++ r), P p) : ∀ p ∈ a :: (r ++ l), P p := fun p hp => N p (by
  rcases List.mem_cons.mp hp with e | hp
  · rw [e]; exact .head _
  · rcases List.mem_append.mp hp with hp | hp
    · exact .tail _ (List.mem_append_right _ hp)
    · exact .tail _ (List.mem_append_left _ hp))
theorem nm {α : Type} {a b : α} {l : List α} (h : a ≠ b) (t : a ∉ l) : a ∉ b :: l := List.not_mem_cons_of_ne_of_not_mem h t
theorem all_cons {α : Type} {P : α → Prop} {a : α} {l : List α} (h : P a) (t : ∀ p ∈ l, P p) : ∀ p ∈ a :: l, P p := List.forall_mem_cons.mpr ⟨h, t⟩
theorem all_nil {α : Type} {P : α → Prop} : ∀ p ∈ ([] : List α), P p := List.forall_mem_nil P
section
variable {prog : Program} {w : World} {A : Around} {s : Shared} {h₀ : Heap} {L : Addr} {m : Str → Option Value} {env : Env} {ct elt : PySem.Expr} {x : Str} {scope : Scope} {cl : List (Str × Addr)} {S : List (Addr × Obj) → Prop} {P : Nat → Value → Prop} {Fin : List Value → List (Addr × Obj) → Prop}
theorem CompEnd.mono {s₁ s₂ : Shared} {I C D : Addr} {oI oC oD : Obj} {r r' : Value → List (Addr × Obj) → Prop} {y : Value} (h : CompEnd h₀ L m s₁ I oI C oC D oD S r y s₂) (k : ∀ y nw, r y nw → r' y nw) : CompEnd h₀ L m s₁ I oI C oC D oD S r' y s₂ :=
  let ⟨h', tk, nw, a, b, c, d, e, f⟩ := h; ⟨h', tk, nw, a, b, c, d, e, k _ _ f⟩

/-- a comprehension without a test, by what holds of the items so far -/
theorem comp_ind (G : Nat → List Value → List (Addr × Obj) → Prop) (n : Nat)
    (turn : ∀ i ys nw v I oI C oC D m₂ h tk (E' : Value → Shared → Prop), i < n → G i ys nw → P i v → NsObj oC m₂ → m₂ x = some v → Fr h₀ L h m → News h₀ L h ((I, oI) :: (C, oC) :: (D, LCg.lst ys) :: nw) → Off3 I C D nw → ((@Ne Nat I C) ∧ (@Ne Nat I D) ∧ (@Ne Nat C D)) →
      wpAny (model prog w) A (eval elt (compEnvC scope cl C env)) (CompEnd h₀ L m { s with heap := h, toks := tk } I oI C oC D (LCg.lst ys) S (fun y nw' => G (i + 1) (ys ++ [y]) nw')) E' { s with heap := h, toks := tk })
    (fin : ∀ ys nw, G n ys nw → Fin ys nw) : ∀ k i ys nw, i + k = n → G i ys nw → CompRest prog w A h₀ L m env elt x scope cl s S P Fin k i ys nw
  | 0, i, ys, nw, e, hG => fin ys nw (by rw [← e]; exact hG)
  | k + 1, i, ys, nw, e, hG => fun v I oI C oC D m₂ h tk E' h1 h2 h3 h4 h5 h6 h7 =>
    wpAny_mono (turn i ys nw v I oI C oC D m₂ h tk E' (by omega) hG h1 h2 h3 h4 h5 h6 h7) (fun y s' hy => CompEnd.mono hy fun y nw' hG' => comp_ind G n turn fin k (i + 1) (ys ++ [y]) nw' (by omega) hG') fun _ _ e => e

/-- a comprehension with one test -/
theorem comp_indT (G : Nat → List Value → List (Addr × Obj) → Prop) (n : Nat)
    (turn : ∀ i ys nw v I oI C oC D m₂ h tk (E' : Value → Shared → Prop), i < n → G i ys nw → P i v → NsObj oC m₂ → m₂ x = some v → Fr h₀ L h m → News h₀ L h ((I, oI) :: (C, oC) :: (D, LCg.lst ys) :: nw) → Off3 I C D nw → ((@Ne Nat I C) ∧ (@Ne Nat I D) ∧ (@Ne Nat C D)) →
      wpAny (model prog w) A (isTrue ct (compEnvC scope cl C env) (eval ct (compEnvC scope cl C env))) (fun ok s' => if ok = true then
        wpAny (model prog w) A (eval elt (compEnvC scope cl C env)) (CompEnd h₀ L m { s with heap := h, toks := tk } I oI C oC D (LCg.lst ys) S (fun y nw' => G (i + 1) (ys ++ [y]) nw')) E' s'
        else CompEnd h₀ L m { s with heap := h, toks := tk } I oI C oC D (LCg.lst ys) S (fun _ nw' => G (i + 1) ys nw') Value.none s') E' { s with heap := h, toks := tk })
    (fin : ∀ ys nw, G n ys nw → Fin ys nw) : ∀ k i ys nw, i + k = n → G i ys nw → LCt.CompRestT prog w A h₀ L m env ct elt x scope cl s S P Fin k i ys nw
  | 0, i, ys, nw, e, hG => fin ys nw (by rw [← e]; exact hG)
  | k + 1, i, ys, nw, e, hG => fun v I oI C oC D m₂ h tk E' h1 h2 h3 h4 h5 h6 h7 =>
    wpAny_mono (turn i ys nw v I oI C oC D m₂ h tk E' (by omega) hG h1 h2 h3 h4 h5 h6 h7) (fun ok s' hy => by
      cases ok with
      | true =>
        simp only [if_true] at hy ⊢
        exact wpAny_mono hy (fun y s' hy => CompEnd.mono hy fun y nw' hG' => comp_indT G n turn fin k (i + 1) (ys ++ [y]) nw' (by omega) hG') fun _ _ e => e
      | false =>
        simp only [Bool.false_eq_true, if_false] at hy ⊢
        exact CompEnd.mono hy fun y nw' hG' => comp_indT G n turn fin k (i + 1) ys nw' (by omega) hG') fun _ _ e => e
end
end Mine
end
section
open PySem PySem.W PyProof.Rows
theorem Mine.anew1 {M : Model} {A : Around} {env : Env} {Q : Flow → Shared → Prop} {E : Value → Shared → Prop} {s : Shared} (h : wpAny M A (execs [] env) Q E s) : wpAny M A (execs [] env) Q E s := by first | (walk1; done) | exact h
end
section
open PySem PySem.W PyProof.Rows PySem.Calls PyProof.Rows.LCg
set_option maxHeartbeats 1000000
namespace Mine
section
variable {prog : Program} {w : World} {A : Around} {E : Value → Shared → Prop} {s : Shared} {env : Env}
/-- one turn of a comprehension's loop, whatever stands behind the target -/
noncomputable def turnOf (e : PySem.Expr) (d : Nat) (p : Pos) (target : PySem.Expr) (it acc : Value) (env : Env) (body : Sem Unit) : Sem Fin :=
  standAt p >>= fun _ => pyNext it >>= fun r => match r with
    | none => pure (.done .next)
    | some v => letOwnedTupleGo target it v >>= fun _ => assign target env v >>= fun _ => body >>= fun _ => again (.compLoop e d it acc env)
/-- the loop of a comprehension by what holds ahead of each turn -/
theorem comp_turns {e : PySem.Expr} {d : Nat} {p : Pos} {target : PySem.Expr} {I : Addr} {acc : Value} {body : Sem Unit} {fp wr : List Addr} {n : Nat} {P Md : Nat → Value → Heap → Prop} {St : Nat → Heap → Prop} {R : Result → Shared → Prop}
    (W : KTurns prog w A target I fp wr n P Md St) (hnf : (Code.compLoop e d (.ref I) acc env).isFrame = false) (hq : (Code.compLoop e d (.ref I) acc env).quiet = true)
    (hund : A.under (Code.compLoop e d (.ref I) acc env) = A)
    (hden : compTurn e d (.ref I) acc env = turnOf e d p target (.ref I) acc env body)
    (Inv : Nat → Shared → Prop) (hSt : ∀ i s, Inv i s → St i s.heap)
    (step : ∀ i s, i < n → Inv i s → ∀ v h₂ tk (E' : Value → Shared → Prop), P i v h₂ → St (i + 1) h₂ → (∀ b o, b ∉ wr → s.heap.get? b = some o → h₂.get? b = some o) →
      wpAny (model prog w) A (assign target env v) (fun _ s₂ => wpAny (model prog w) A body (fun _ s' => Inv (i + 1) s') E' s₂) E' { s with heap := h₂, toks := tk })
    (fin : ∀ s, Inv n s → ∀ h' tk, (∀ b o, b ∉ wr → s.heap.get? b = some o → h'.get? b = some o) → R (.ok .next) { s with heap := h', toks := tk })
    (h0 : Inv 0 s) : codeAny (model prog w) A (.compLoop e d (.ref I) acc env) R s := by
  refine codeAny_loop hq (fun k s' => ∃ i, i ≤ n ∧ k = n - i ∧ Inv i s') (fun k s' hI => ?_) n ⟨0, Nat.zero_le _, rfl, h0⟩
  rw [hund]
  show wpAny _ A (if (Code.compLoop e d (.ref I) acc env).isFrame then (compTurn e d (.ref I) acc env).onRaise (leaving env) else (compTurn e d (.ref I) acc env).onRaise (fun x => do noteFrame x env; theTreesLotGoes x)) _ _ s'
  rw [hnf]
  show wpAny _ A ((compTurn e d (.ref I) acc env).onRaise (fun x => do noteFrame x env; theTreesLotGoes x)) _ _ s'
  refine wpAny_noted ?_
  rw [hden]
  obtain ⟨i, hi, rfl, hI⟩ := hI
  unfold turnOf
  by_cases hlt : i < n
  · refine wpAny_bind (wpAny_standAt (wpAny_bind (W.item i _ _ _ hlt (hSt i s' hI) fun v h₁ tk hMd hk₁ => ?_)))
    refine wpAny_bind (W.go i v _ _ _ hMd fun h₂ hP hst₂ hk₂ => ?_)
    refine wpAny_bind (wpAny_mono (step i s' hlt hI v h₂ tk _ hP hst₂ fun b o hb e => hk₂ b o hb (hk₁ b o hb e)) (fun _ s₂ h₂' => ?_) fun _ _ x => x)
    exact wpAny_bind (wpAny_mono h₂' (fun _ s₃ h₃ => wpAny_pure ⟨rfl, n - (i + 1), by omega, i + 1, hlt, rfl, h₃⟩) fun _ _ x => x)
  · obtain rfl : i = n := by omega
    refine wpAny_bind (wpAny_standAt (wpAny_bind (W.done _ _ _ (hSt i s' hI) fun h₁ tk hk₁ => wpAny_pure ?_)))
    exact fin s' hI h₁ tk hk₁
theorem comp_start {e : PySem.Expr} {d : Nat} {I : Addr} {acc : Value} {R : Result → Shared → Prop} {g : Comprehension} (hg : (clausesOf e)[d]? = some g) (ha : g.is_async = 0) (hnf : (Code.compStart e d (.ref I) acc env).isFrame = false)
    (hund : A.under (Code.compStart e d (.ref I) acc env) = A) (hq : (Code.compLoop e d (.ref I) acc env).quiet = true)
    (h0 : codeAny (model prog w) A (.compLoop e d (.ref I) acc env) R s)
    (self : ∀ (Q : Value → Shared → Prop) (E : Value → Shared → Prop), Q (.ref I) s → wpAny (model prog w) A (pyIter (.ref I)) Q E s) :
    codeAny (model prog w) A (.compStart e d (.ref I) acc env) R s := by
  refine codeAny_of_tree ?_
  rw [hund]
  show wpAny _ _ (if (Code.compStart e d (.ref I) acc env).isFrame then (compStart e d (.ref I) acc env).onRaise (leaving env) else (compStart e d (.ref I) acc env).onRaise (fun x => do noteFrame x env; standAt theWindowsPlace)) _ _ s
  rw [hnf]
  show wpAny _ _ ((compStart e d (.ref I) acc env).onRaise (fun x => do noteFrame x env; standAt theWindowsPlace)) _ _ s
  refine wpAny_notedAt ?_
  unfold compStart
  rw [hg]
  simp only [Option.elim, ha]
  show wpAny _ _ (ask >>= _) _ _ s
  refine wpAny_bind (wpAny_askSetting (wpAny_ite ?_))
  split
  · first
      | exact wpAny_bind (wpAny_pure (wpAny_pure (And.intro hq h0)))
      | exact wpAny_pure (And.intro hq h0)
  · first
      | exact wpAny_bind (wpAny_rule (wpAny_bind (wpAny_standAt (wpAny_bind (self _ _ (wpAny_pure (And.intro hq h0)))))))
      | (refine wpAny_bind (wpAny_rule ?_); show wpAny _ _ (standAt g.iter.pos >>= _) _ _ s; exact wpAny_bind (wpAny_standAt (wpAny_bind (self _ _ (wpAny_pure (And.intro hq h0))))))
end
end Mine
end
section
open PySem PySem.W PyProof.Rows PySem.Calls PyProof.Rows.LCg
set_option maxHeartbeats 1000000
namespace Mine
noncomputable abbrev Led := List (Addr × Obj)
noncomputable abbrev Loc := Str → Option Value
section
variable {prog : Program} {w : World} {A : Around} {s : Shared} {h₀ : Heap} {L : Addr} {env : Env} {Q : Flow → Shared → Prop}

/-- where a turn of a while stands -/
noncomputable def WEnd (h₀ : Heap) (L : Addr) (s : Shared) (G : Nat → Loc → Led → Prop) (n : Nat) (s₃ : Shared) : Prop :=
  ∃ h tk m nw k, s₃ = { s with heap := h, toks := tk } ∧ Fr h₀ L h m ∧ News h₀ L h nw ∧ k < n ∧ G k m nw
noncomputable def WPost (h₀ : Heap) (L : Addr) (s : Shared) (G : Nat → Loc → Led → Prop) (n : Nat) (Q : Flow → Shared → Prop) (f : Flow) (s₃ : Shared) : Prop := match f with
  | .next | .cont => WEnd h₀ L s G n s₃
  | .brk => Q .next s₃
  | .ret v => Q (.ret v) s₃
theorem WEnd.intro {G : Nat → Loc → Led → Prop} {n k : Nat} {h : Heap} {tk : Nat} {m : Loc} {nw : Led} (F : Fr h₀ L h m) (N : News h₀ L h nw) (hk : k < n) (hG : G k m nw) : WEnd h₀ L s G n { s with heap := h, toks := tk } := ⟨h, tk, m, nw, k, rfl, F, N, hk, hG⟩

theorem while_ind {test : PySem.Expr} {body : List Stmt} {pos : Pos} (G : Nat → Loc → Led → Prop)
    (turn : ∀ n m nw h tk, G n m nw → Fr h₀ L h m → News h₀ L h nw →
      wpAny (model prog w) A (isTrue test env (eval test env)) (fun b s₂ => if b = true then wpAny (model prog w) A (execs body env) (WPost h₀ L s G n Q) (fun _ _ => False) s₂ else Q .next s₂) (fun _ _ => False) { s with heap := h, toks := tk })
    {n : Nat} {m : Loc} {nw : Led} (hG : G n m nw) (F : Fr h₀ L s.heap m) (N : News h₀ L s.heap nw) : wpAny (model prog w) A (exec (.While test body [] pos) env) Q (fun _ _ => False) s := by
  refine wpAny_While (codeAny_whileLoop (fun n s' => ∃ h tk m nw, s' = { s with heap := h, toks := tk } ∧ Fr h₀ L h m ∧ News h₀ L h nw ∧ G n m nw) (fun n s' hI => ?_) n ⟨s.heap, s.toks, m, nw, rfl, F, N, hG⟩)
  obtain ⟨h, tk, m, nw, rfl, F, N, hG⟩ := hI
  refine wpAny_mono (turn n m nw h tk hG F N) (fun b s₂ h₂ => ?_) fun _ _ x => x.elim
  cases b with
  | true =>
    simp only [if_true] at h₂ ⊢
    refine wpAny_mono h₂ (fun f s₃ h₃ => ?_) fun _ _ x => x.elim
    cases f with
    | next => obtain ⟨h, tk, m, nw, k, rfl, F, N, hk, hG⟩ := h₃; exact ⟨k, hk, h, tk, m, nw, rfl, F, N, hG⟩
    | cont => obtain ⟨h, tk, m, nw, k, rfl, F, N, hk, hG⟩ := h₃; exact ⟨k, hk, h, tk, m, nw, rfl, F, N, hG⟩
    | brk => exact h₃
    | ret v => exact h₃
  | false =>
    simp only [Bool.false_eq_true, if_false] at h₂ ⊢
    exact wpAny_execs_nil h₂

/-- where a turn of a for stands; I: the iterator -/
noncomputable def FEnd (h₀ : Heap) (L : Addr) (s : Shared) (I : Addr) (oI : Obj) (G : Loc → Led → Prop) (s₃ : Shared) : Prop :=
  ∃ h tk m nw, s₃ = { s with heap := h, toks := tk } ∧ Fr h₀ L h m ∧ News h₀ L h ((I, oI) :: nw) ∧ (∀ p ∈ nw, p.1 ≠ I) ∧ G m nw
noncomputable def FPost (h₀ : Heap) (L : Addr) (s : Shared) (I : Addr) (oI : Obj) (G : Loc → Led → Prop) (Q : Flow → Shared → Prop) (f : Flow) (s₃ : Shared) : Prop := match f with
  | .next | .cont => FEnd h₀ L s I oI G s₃
  | .brk => Q .next s₃
  | .ret v => Q (.ret v) s₃
theorem FEnd.intro {G : Loc → Led → Prop} {h : Heap} {tk : Nat} {m : Loc} {I : Addr} {oI : Obj} {all : Led} (F : Fr h₀ L h m) (N : News h₀ L h all) (nw : Led) (sub : ∀ p ∈ (I, oI) :: nw, p ∈ all) (off : ∀ p ∈ nw, p.1 ≠ I) (hG : G m nw) : FEnd h₀ L s I oI G { s with heap := h, toks := tk } :=
  ⟨h, tk, m, nw, rfl, F, fun p hp => N p (sub p hp), off, hG⟩

/-- a for over whatever is walked, by what holds between the turns -/
theorem for_gen {target : PySem.Expr} {body : List Stmt} {I : Addr} {fp : List Addr} {n : Nat} {P : Nat → Value → Prop} {St : Nat → Heap → Prop} {S : Led → Prop} {m : Loc} {nw : Led} (W : Walks prog w A I fp [I] n P St)
    (hIo : ∀ i h, St i h → ∃ o, h.get? I = some o)
    (hSt : ∀ i h h' o nw, St i h → h.get? I = some o → h'.get? I = some o → (∀ b o, h₀.get? b = some o → h'.get? b = some o) → News h₀ L h' nw → S nw → St i h')
    (hgo : ∀ i v (s' : Shared) (Q' : Unit → Shared → Prop) (E' : Value → Shared → Prop), St i s'.heap → Q' () s' → wpAny (model prog w) A (letOwnedTupleGo target (.ref I) v) Q' E' s')
    (G : Nat → Loc → Led → Prop) (hGS : ∀ i m nw, G i m nw → S nw) (hst : St 0 s.heap) (F : Fr h₀ L s.heap m) (N : News h₀ L s.heap nw) (hIL : L ≠ I) (hI₀ : h₀.get? I = none) (off : ∀ p ∈ nw, p.1 ≠ I) (hG : G 0 m nw)
    (turn : ∀ i v m nw oI h tk, i < n → P i v → G i m nw → Fr h₀ L h m → News h₀ L h ((I, oI) :: nw) → (∀ p ∈ nw, p.1 ≠ I) →
      wpAny (model prog w) A (assign target env v) (fun _ s₂ => wpAny (model prog w) A (execs body env) (FPost h₀ L s I oI (G (i + 1)) Q) (fun _ _ => False) s₂) (fun _ _ => False) { s with heap := h, toks := tk })
    (fin : ∀ m nw h tk, G n m nw → Fr h₀ L h m → News h₀ L h nw → Q .next { s with heap := h, toks := tk }) {E : Value → Shared → Prop} :
    codeAny (model prog w) A (.forLoop target (.ref I) body [] env) (fun r s' => match r with | .ok f => Q f s' | .error e => cameBackBy (model prog w) A env E e s') s := by
  refine codeAny_forLoop_any (fun k s' => ∃ h tk i m nw, s' = { s with heap := h, toks := tk } ∧ St i h ∧ Fr h₀ L h m ∧ News h₀ L h nw ∧ (∀ p ∈ nw, p.1 ≠ I) ∧ G i m nw ∧ i ≤ n ∧ k = n + 1 - i) (fun k s' hI => ?_) (n + 1) ⟨s.heap, s.toks, 0, m, nw, rfl, hst, F, N, off, hG, Nat.zero_le _, rfl⟩
  obtain ⟨h, tk, i, m, nw, rfl, hst, F, N, off, hG, hi, rfl⟩ := hI
  by_cases hlt : i < n
  · refine W.item i _ _ _ hlt hst fun v h₂ tk₂ hP hst₂ hk₂ => ?_
    obtain ⟨oI, hoI⟩ := hIo _ _ hst₂
    have F₂ : Fr h₀ L h₂ m := fr_but F hk₂ hIL hI₀
    have N₂ : News h₀ L h₂ ((I, oI) :: nw) := fun p hp => by
      rcases List.mem_cons.mp hp with rfl | hp
      · exact ⟨hoI, Ne.symm hIL, hI₀⟩
      · exact news_but N hk₂ off p hp
    refine hgo (i + 1) v _ _ _ hst₂ ?_
    refine wpAny_mono (turn i v m nw oI h₂ tk₂ hlt hP hG F₂ N₂ off) (fun _ s₂ h₃ => ?_) fun _ _ x => x.elim
    refine wpAny_mono h₃ (fun f s₃ h₄ => ?_) fun _ _ x => x.elim
    have next : FEnd h₀ L s I oI (G (i + 1)) s₃ → ∃ k', k' < n + 1 - i ∧ ∃ h tk i m nw, s₃ = { s with heap := h, toks := tk } ∧ St i h ∧ Fr h₀ L h m ∧ News h₀ L h nw ∧ (∀ p ∈ nw, p.1 ≠ I) ∧ G i m nw ∧ i ≤ n ∧ k' = n + 1 - i := by
      rintro ⟨h, tk, m, nw, rfl, F, N, off, hG⟩
      have N' : News h₀ L h nw := fun p hp => N p (List.mem_cons_of_mem _ hp)
      exact ⟨n + 1 - (i + 1), by omega, h, tk, i + 1, m, nw, rfl, hSt _ _ _ _ _ hst₂ hoI (N _ List.mem_cons_self).1 F.keep N' (hGS _ _ _ hG), F, N', off, hG, hlt, rfl⟩
    cases f with
    | next => exact next h₄
    | cont => exact next h₄
    | brk => exact h₄
    | ret v => exact h₄
  · obtain rfl : i = n := Nat.le_antisymm hi (Nat.not_lt.mp hlt)
    refine W.done _ _ _ hst fun h₂ tk₂ hk₂ => ?_
    exact wpAny_execs_nil (fin m nw h₂ tk₂ hG (fr_but F hk₂ hIL hI₀) (news_but N hk₂ off))

theorem go_name {x : Str} {px : Pos} {it v : Value} : letOwnedTupleGo (.Name x px) it v = pure () := rfl

/-- where a for over a range begins -/
inductive RangeGo (h₀ : Heap) (L : Addr) (G : Nat → Loc → Led → Prop) (a b : Int) (T : Heap → Prop) (xv : Value) (h₁ : Heap) : Prop
  | mk (r : Addr) (t u v : Tok) (m : Loc) (nw : Led) (e : xv = .ref r) (hr : IsRange h₁ r a b 1 t u v) (F : Fr h₀ L h₁ m) (N : News h₀ L h₁ nw) (g0 : G 0 m nw) (go : ∀ g, T g) : RangeGo h₀ L G a b T xv h₁
/-- where a for over a list or a tuple begins -/
inductive ForGo (h₀ : Heap) (L : Addr) (G : Nat → Loc → Led → Prop) (Src : Addr → Led → Prop) (T : Heap → Prop) (xv : Value) (h₁ : Heap) : Prop
  | mk (ax : Addr) (m : Loc) (nw : Led) (e : xv = .ref ax) (F : Fr h₀ L h₁ m) (N : News h₀ L h₁ nw) (g0 : G 0 m nw) (hS : ∀ i m nw, G i m nw → Src ax nw) (go : ∀ g, T g) : ForGo h₀ L G Src T xv h₁
/-- a for with one name over a range -/
theorem for_range {x : Str} {px : Pos} {iter : PySem.Expr} {body : List Stmt} {pos : Pos} {a b : Int} {n : Nat} (hh : A.handled = none) (hsm : Builtin.Range.small a b 1 = true) (hn : Builtin.Range.rangeSize a b 1 = ((n : Nat) : Int)) (hs : ∀ x, foldedSetIterable iter env x = pure x) (G : Nat → Loc → Led → Prop)
    (h : wpAny (model prog w) A (eval iter env) (fun xv s₁ => NxStop <| RangeGo h₀ L G a b (fun g =>
      (∀ I i m nw oI t h tk, i < n → G i m nw → Fr h₀ L h m → News h₀ L h ((I, oI) :: nw) → (∀ p ∈ nw, p.1 ≠ I) →
        wpAny (model prog w) A (assign (.Name x px) env (.int (a + (i : Int)) t)) (fun _ s₂ => wpAny (model prog w) A (execs body env) (FPost h₀ L { s₁ with heap := g } I oI (G (i + 1)) Q) (fun _ _ => False) s₂) (fun _ _ => False) { s₁ with heap := h, toks := tk }) ∧
      (∀ m nw h tk, G n m nw → Fr h₀ L h m → News h₀ L h nw → Q .next { s₁ with heap := h, toks := tk })) xv s₁.heap) (fun _ _ => False) s) :
    wpAny (model prog w) A (exec (.For (.Name x px) iter body [] pos) env) Q (fun _ _ => False) s := by
  refine wpAny_For (wpAny_mono h (fun xv s₁ h₁ => ?_) fun _ _ x => x.elim) hs
  obtain ⟨r, t, u, v, m, nw, rfl, hr, F, N, hG, rest⟩ := h₁
  refine wpAny_pyIter_range hr hsm ?_
  have up : ∀ c o, s₁.heap.get? c = some o → (s₁.heap.push { cls := .type "range_iterator", data := .fields #[rawInt a, rawInt (Builtin.Range.rangeSize a b 1), rawInt 1] }).get? c = some o := fun b o e => Heap.get?_push_of_some _ e
  obtain ⟨turn, fin⟩ := rest (s₁.heap.push { cls := .type "range_iterator", data := .fields #[rawInt a, rawInt (Builtin.Range.rangeSize a b 1), rawInt 1] })
  refine for_gen (S := fun _ => True) (range_walks hh a n) (fun i h st => ⟨_, st⟩) range_st (fun i v s' Q' E' _ hq => wpAny_pure hq) G (fun _ _ _ _ => trivial) (by show IsRangeIter _ _ _ _ _; rw [hn]; simpa using Heap.get?_push_size _ rfl) (F.keeps up) (N.grown up) (Nat.ne_of_lt F.ns.lt) (next_is_new F) (fun p hp => Nat.ne_of_lt (Heap.lt_size (N p hp).1)) hG ?_ ?_
  · rintro i v m nw oI h tk hi ⟨t, rfl⟩ hG F N off
    exact turn _ i m nw oI t h tk hi hG F N off
  · exact fin
/-- a for with one name over a list that stands on the ground or in the ledger -/
theorem for_list {x : Str} {px : Pos} {iter : PySem.Expr} {body : List Stmt} {pos : Pos} {its : Array Value} (hh : A.handled = none) (hs : ∀ x, foldedSetIterable iter env x = pure x) (G : Nat → Loc → Led → Prop)
    (h : wpAny (model prog w) A (eval iter env) (fun xv s₁ => NxStop <| ForGo h₀ L G (fun ax nw => SrcAt h₀ ax its nw) (fun g =>
      (∀ I i v m nw oI h tk, its[i]? = some v → G i m nw → Fr h₀ L h m → News h₀ L h ((I, oI) :: nw) → (∀ p ∈ nw, p.1 ≠ I) →
        wpAny (model prog w) A (assign (.Name x px) env v) (fun _ s₂ => wpAny (model prog w) A (execs body env) (FPost h₀ L { s₁ with heap := g } I oI (G (i + 1)) Q) (fun _ _ => False) s₂) (fun _ _ => False) { s₁ with heap := h, toks := tk }) ∧
      (∀ m nw h tk, G its.size m nw → Fr h₀ L h m → News h₀ L h nw → Q .next { s₁ with heap := h, toks := tk })) xv s₁.heap) (fun _ _ => False) s) :
    wpAny (model prog w) A (exec (.For (.Name x px) iter body [] pos) env) Q (fun _ _ => False) s := by
  refine wpAny_For (wpAny_mono h (fun xv s₁ h₁ => ?_) fun _ _ x => x.elim) hs
  obtain ⟨ax, m, nw, rfl, F, N, hG, hS, rest⟩ := h₁
  have hl := (hS _ _ _ hG).list F.keep N
  have hlt : ax < s₁.heap.objs.size := by obtain ⟨_, e, _⟩ := hl; exact Heap.lt_size e
  refine wpAny_pyIter_list hl ?_
  have up : ∀ b o, s₁.heap.get? b = some o → (s₁.heap.push { cls := .type "list_iterator", data := .fields #[.ref ax, .int 0 0] }).get? b = some o := fun b o e => Heap.get?_push_of_some _ e
  obtain ⟨turn, fin⟩ := rest (s₁.heap.push { cls := .type "list_iterator", data := .fields #[.ref ax, .int 0 0] })
  refine for_gen (S := SrcAt h₀ ax its) (Walks.list hh s₁.heap.objs.size ax (Nat.ne_of_lt hlt) its) (fun i h st => by obtain ⟨o, e, _⟩ := st.1; exact ⟨o, e⟩) list_st (fun i v s' Q' E' _ hq => wpAny_pure hq) G hS ⟨⟨_, Heap.get?_push_size _ rfl, rfl, rfl⟩, hl.push _⟩ (F.keeps up) (N.grown up) (Nat.ne_of_lt F.ns.lt) (next_is_new F) (fun p hp => Nat.ne_of_lt (Heap.lt_size (N p hp).1)) hG ?_ ?_
  · intro i v m nw oI h tk hi hv hG F N off
    exact turn _ i v m nw oI h tk hv hG F N off
  · exact fin
end
end Mine
end
section
open PySem PySem.W PyProof.Rows PySem.Calls PyProof.Rows.LCg
set_option maxHeartbeats 1000000
namespace Mine
noncomputable abbrev wordO (l : List Value) : Obj := { cls := .type "list", data := .seq l.toArray }
noncomputable abbrev WList := List (Addr × List Value)
/-- what a piece of the nested comprehension leaves -/
noncomputable def NRes (s : Shared) (C D : Addr) (m : Loc) (K : Str → Prop) (ys : List Value) (X : Addr → Prop) (us : List (List Value)) (s' : Shared) : Prop :=
  ∃ h' tk m' ws, s' = { s with heap := h', toks := tk } ∧ h'.Ns C m' ∧ (∀ y, K y → m' y = m y) ∧ h'.get? D = some (lst (ys ++ (ws : WList).map fun p => Value.ref p.1)) ∧
    (∀ b o, b ≠ C → b ≠ D → ¬ X b → s.heap.get? b = some o → h'.get? b = some o) ∧ (∀ p ∈ (ws : WList), h'.get? p.1 = some (wordO p.2) ∧ s.heap.get? p.1 = none) ∧ ws.map (·.2) = us
section
variable {prog : Program} {w : World} {A : Around} {E : Value → Shared → Prop} {s : Shared} {env : Env}
theorem level {e : PySem.Expr} {d : Nat} {p : Pos} {x : Str} {px : Pos} {I C D ax : Addr} {oax : Obj} {scope : Scope} {cl : List (Str × Addr)} {body : Sem Unit} {vs : List Value} {nv k N : Nat} {f : Value → List (List Value)} {m : Loc} {K K' : Str → Prop} {ys : List Value} {G : Led} {R : Result → Shared → Prop}
    (hh : A.handled = none) (hnf : (Code.compLoop e d (.ref I) (.ref D) (compEnvC scope cl C env)).isFrame = false) (hq : (Code.compLoop e d (.ref I) (.ref D) (compEnvC scope cl C env)).quiet = true)
    (hund : A.under (Code.compLoop e d (.ref I) (.ref D) (compEnvC scope cl C env)) = A)
    (hden : compTurn e d (.ref I) (.ref D) (compEnvC scope cl C env) = turnOf e d p (.Name x px) (.ref I) (.ref D) (compEnvC scope cl C env) body)
    (hkind : scope.kind = .function) (hx : scope.names.lookup x = some .local) (hK : ∀ y, K y → y ≠ x ∧ K' y)
    (hax : (ax, oax) ∈ G) (hac : oax.cls = .type "list") (had : oax.data = .seq vs.toArray nv)
    (offG : ∀ p ∈ G, p.1 ≠ C ∧ p.1 ≠ D ∧ p.1 ≠ I) (hIC : I ≠ C) (hID : I ≠ D) (hCD : C ≠ D)
    (hf : ∀ v ∈ vs, (f v).length = k) (hN : ys.length + vs.length * k ≤ N)
    (hbody : ∀ v ∈ vs, ∀ (s : Shared) m₂ ys (E' : Value → Shared → Prop), s.heap.Ns C m₂ → m₂ x = some v → (∀ y, K y → m₂ y = m y) → s.heap.get? D = some (lst ys) → ys.length + k ≤ N → (∀ p ∈ G, s.heap.get? p.1 = some p.2) →
      wpAny (model prog w) A body (fun _ s' => NRes s C D m₂ K' ys (fun _ => False) (f v) s') E' s)
    (hit : s.heap.IsListIter I ax 0) (hC : s.heap.Ns C m) (hD : s.heap.get? D = some (lst ys)) (hG : ∀ p ∈ G, s.heap.get? p.1 = some p.2)
    (fin : ∀ s', NRes s C D m K ys (fun b => b = I) (vs.flatMap f) s' → R (.ok .next) s') :
    codeAny (model prog w) A (.compLoop e d (.ref I) (.ref D) (compEnvC scope cl C env)) R s := by
  have hne : ax ≠ I := (offG _ hax).2.2
  have apart : ∀ {a : Addr}, s.heap.get? a = none → a ≠ C ∧ a ≠ D ∧ a ≠ I := by
    intro a e1
    refine ⟨fun q => ?_, fun q => ?_, fun q => ?_⟩
    · obtain ⟨o', _, _, e2, _⟩ := hC
      rw [q] at e1; rw [e1] at e2; cases e2
    · rw [q, hD] at e1; cases e1
    · obtain ⟨oi, hoi, _⟩ := hit
      rw [q, hoi] at e1; cases e1
  refine comp_turns (KTurns.ofWalks (target := .Name x px) (Walks.list hh I ax hne vs.toArray) fun _ _ _ _ _ _ h => wpAny_pure h) hnf hq hund hden
    (fun i s' => i ≤ vs.length ∧ s'.heap.IsListIter I ax i ∧ NRes s C D m K ys (fun b => b = I) ((vs.take i).flatMap f) s') (fun i s' hI => ⟨hI.2.1, ?_⟩) (fun i s' hi hI v h₂ tk E' hP hst hk => ?_) (fun s' hI h' tk hk => ?_) ⟨Nat.zero_le _, hit, ?_⟩
  · obtain ⟨_, _, h', tk, m', ws, rfl, hC', hm', hD', hkeep, hws, hus⟩ := hI
    exact ⟨oax, hkeep _ _ (offG _ hax).1 (offG _ hax).2.1 hne (hG _ hax), hac, nv, had⟩
  · obtain ⟨_, hit', h', tk', m', ws, rfl, hC', hm', hD', hkeep, hws, hus⟩ := hI
    rw [List.size_toArray] at hi
    have hv : vs[i]? = some v := by simpa using hP
    have hvm : v ∈ vs := List.mem_of_getElem? hv
    have hC₂ : h₂.Ns C m' := hC'.at' fun o e => hk _ o (by simpa using Ne.symm hIC) e
    refine wpAny_assign_Name (wpAny_storeName_local (lookup_relabel_local hx) hC₂ (fun h₃ hn₃ hs₃ => ?_) (by simp [compEnvC, relabel, hkind]))
    have hs₃' : ∀ b o, b ≠ C → h₂.get? b = some o → h₃.get? b = some o := fun b o hb e => hs₃.extBut b o hb e
    have up : ∀ b o, b ≠ C → b ≠ I → h'.get? b = some o → h₃.get? b = some o := fun b o h1 h2 e => hs₃' b o h1 (hk b o (by simpa using h2) e)
    have hl : ∀ q, q < vs.length → (vs.take (q + 1)) = vs.take q ++ (vs[q]?).toList := fun q _ => List.take_add_one
    have hwl : ws.length = i * k := by
      have := congrArg List.length hus
      rw [List.length_map, List.length_flatMap] at this
      rw [this]
      have : ∀ l : List Value, (∀ v ∈ l, (f v).length = k) → (l.map fun a => (f a).length).sum = l.length * k := by
        intro l
        induction l with
        | nil => intro _; simp
        | cons a l ih =>
          intro h
          rw [List.map_cons, List.sum_cons, ih fun v hv => h v (List.mem_cons_of_mem _ hv), h a List.mem_cons_self, List.length_cons, Nat.add_mul, Nat.one_mul, Nat.add_comm]
      rw [this _ fun v hv => hf v (List.mem_of_mem_take hv), List.length_take, Nat.min_eq_left (Nat.le_of_lt hi)]
    have hub : (i + 1) * k ≤ vs.length * k := Nat.mul_le_mul_right _ hi
    have hD₃ : h₃.get? D = some (lst (ys ++ ws.map fun p => Value.ref p.1)) := up _ _ (Ne.symm hCD) (Ne.symm hID) hD'
    refine wpAny_mono (hbody v hvm _ _ (ys ++ ws.map fun p => Value.ref p.1) E' hn₃ (by simp) (fun y hy => ?_) hD₃ ?_ (fun p hp => ?_)) (fun _ s' hs' => ?_) fun _ _ e => e
    · exact (if_neg (hK y hy).1).trans (hm' y hy)
    · rw [List.length_append, List.length_map, hwl]; rw [Nat.add_mul, Nat.one_mul] at hub; omega
    · exact up _ _ (offG p hp).1 (offG p hp).2.2 (hkeep _ _ (offG p hp).1 (offG p hp).2.1 (offG p hp).2.2 (hG p hp))
    · obtain ⟨h₄, tk₄, m₄, ws₄, rfl, hC₄, hm₄, hD₄, hkeep₄, hws₄, hus₄⟩ := hs'
      have hit₂ := hst.1
      refine ⟨hi, ?_, h₄, tk₄, m₄, ws ++ ws₄, rfl, hC₄, fun y hy => ?_, ?_, fun b o h1 h2 h3 e => ?_, fun p hp => ?_, ?_⟩
      · obtain ⟨oi, hoi, r⟩ := hit₂
        exact ⟨oi, hkeep₄ _ _ hIC hID id (hs₃' _ _ hIC hoi), r⟩
      · rw [hm₄ y (hK y hy).2]; exact (if_neg (hK y hy).1).trans (hm' y hy)
      · rw [hD₄, List.map_append, List.append_assoc]
      · exact hkeep₄ b o h1 h2 id (up b o h1 h3 (hkeep b o h1 h2 h3 e))
      · rcases List.mem_append.mp hp with hp | hp
        · have z := hws p hp
          have n := apart z.2
          exact ⟨hkeep₄ _ _ n.1 n.2.1 id (up _ _ n.1 n.2.2 z.1), z.2⟩
        · have z := hws₄ p hp
          refine ⟨z.1, ?_⟩
          cases e : s.heap.get? p.1 with
          | none => rfl
          | some o =>
            exfalso
            have e1 : h₃.get? p.1 = none := z.2
            have n1 : p.1 ≠ C := fun q => by
              obtain ⟨o', _, _, e2, _⟩ := hn₃
              have e2 : h₃.get? C = some o' := e2
              rw [q] at e1; rw [e1] at e2; cases e2
            have n2 : p.1 ≠ D := fun q => by rw [q, hD₃] at e1; cases e1
            have n3 : p.1 ≠ I := fun q => by
              obtain ⟨oi, hoi, _⟩ := hit₂
              rw [q, hs₃' _ _ hIC hoi] at e1; cases e1
            rw [up _ _ n1 n3 (hkeep _ _ n1 n2 n3 e)] at e1; cases e1
      · rw [List.map_append, hus, hus₄, List.take_add_one, hv, Option.toList_some, List.flatMap_append, List.flatMap_singleton]
  · obtain ⟨_, hit', h₁, tk', m', ws, rfl, hC', hm', hD', hkeep, hws, hus⟩ := hI
    have up : ∀ b o, b ≠ I → h₁.get? b = some o → h'.get? b = some o := fun b o h2 e => hk b o (by simpa using h2) e
    rw [List.size_toArray, List.take_length] at hus
    refine fin _ ⟨h', tk, m', ws, rfl, hC'.at' fun o e => up _ o (Ne.symm hIC) e, hm', up _ _ (Ne.symm hID) hD', fun b o h1 h2 h3 e => up b o h3 (hkeep b o h1 h2 h3 e), fun p hp => ?_, hus⟩
    have z := hws p hp
    exact ⟨up _ _ (apart z.2).2.2 z.1, z.2⟩
  · exact ⟨s.heap, s.toks, m, [], rfl, hC, fun _ _ => rfl, by simpa using hD, fun _ _ _ _ _ e => e, (fun _ h => nomatch h), by simp⟩
end
end Mine
end
section
open PySem PySem.W PyProof.Rows PySem.Calls PyProof.Rows.LCg
set_option maxHeartbeats 1000000
namespace Mine
section
variable {prog : Program} {w : World} {A : Around} {E : Value → Shared → Prop} {s : Shared} {env : Env}
noncomputable abbrev nestE (x0 x1 x2 y : Str) (a0 a1 a2 p0 p1 p2 q0 q1 q2 lp pos : Pos) (scope : Scope) : PySem.Expr :=
  .ListComp (.List [.Name x0 a0, .Name x1 a1, .Name x2 a2] lp) [⟨.Name x0 p0, .Name y q0, [], 0⟩, ⟨.Name x1 p1, .Name y q1, [], 0⟩, ⟨.Name x2 p2, .Name y q2, [], 0⟩] scope pos
noncomputable def innerB (e : PySem.Expr) (d : Nat) (i1 : PySem.Expr) (acc : Value) (env : Env) : Sem Unit :=
  eval i1 env >>= fun x => standAt i1.pos >>= fun _ => foldedSetIterable i1 env x >>= fun x => holding [x] (pyIter x) >>= fun it => runOwn (.compStart e d it acc env) env >>= fun _ => pure ()
noncomputable def emitB (elt : PySem.Expr) (acc : Value) (env : Env) : Sem Unit := eval elt env >>= fun x => call (.builtin "list.append") [acc, x] >>= fun _ => pure ()
variable {x0 x1 x2 y : Str} {a0 a1 a2 p0 p1 p2 q0 q1 q2 lp pos : Pos} {scope : Scope}
theorem turn0 (it acc : Value) : compTurn (nestE x0 x1 x2 y a0 a1 a2 p0 p1 p2 q0 q1 q2 lp pos scope) 0 it acc env = turnOf (nestE x0 x1 x2 y a0 a1 a2 p0 p1 p2 q0 q1 q2 lp pos scope) 0 q0 (.Name x0 p0) it acc env (innerB (nestE x0 x1 x2 y a0 a1 a2 p0 p1 p2 q0 q1 q2 lp pos scope) 1 (.Name y q1) acc env) := by
  simp only [turnOf, innerB, bind_assoc, pure_bind]; rfl
theorem turn1 (it acc : Value) : compTurn (nestE x0 x1 x2 y a0 a1 a2 p0 p1 p2 q0 q1 q2 lp pos scope) 1 it acc env = turnOf (nestE x0 x1 x2 y a0 a1 a2 p0 p1 p2 q0 q1 q2 lp pos scope) 1 q1 (.Name x1 p1) it acc env (innerB (nestE x0 x1 x2 y a0 a1 a2 p0 p1 p2 q0 q1 q2 lp pos scope) 2 (.Name y q2) acc env) := by
  simp only [turnOf, innerB, bind_assoc, pure_bind]; rfl
theorem turn2 (it acc : Value) : compTurn (nestE x0 x1 x2 y a0 a1 a2 p0 p1 p2 q0 q1 q2 lp pos scope) 2 it acc env = turnOf (nestE x0 x1 x2 y a0 a1 a2 p0 p1 p2 q0 q1 q2 lp pos scope) 2 q2 (.Name x2 p2) it acc env (emitB (.List [.Name x0 a0, .Name x1 a1, .Name x2 a2] lp) acc env) := by rfl
theorem comp_name {cl : List (Str × Addr)} {C : Addr} {x : Str} {px : Pos} {m : Loc} {v : Value} {Q : Value → Shared → Prop} (hkind : scope.kind = .function) (hx : scope.names.lookup x = some .local) (hn : s.heap.Ns C m) (hv : m x = some v) (hd : (x == ("__debug__" : Str)) = false) (h : Q v s) :
    wpAny (model prog w) A (eval (.Name x px) (compEnvC scope cl C env)) Q E s :=
  wpAny_Name (wpAny_loadName_local (env := compEnvC scope cl C env) hkind (lookup_relabel_local hx) hn hv h) hd
/-- the innermost body -/
theorem emit_word {cl : List (Str × Addr)} {C D : Addr} {m : Loc} {u0 u1 u2 : Value} {ys : List Value} {K : Str → Prop} (hkind : scope.kind = .function) (h0 : scope.names.lookup x0 = some .local) (h1 : scope.names.lookup x1 = some .local) (h2 : scope.names.lookup x2 = some .local)
    (d0 : (x0 == ("__debug__" : Str)) = false) (d1 : (x1 == ("__debug__" : Str)) = false) (d2 : (x2 == ("__debug__" : Str)) = false)
    (hn : s.heap.Ns C m) (v0 : m x0 = some u0) (v1 : m x1 = some u1) (v2 : m x2 = some u2) (hD : s.heap.get? D = some (lst ys)) (hCD : C ≠ D) (hsz : ys.length ≤ sizeLine) :
    wpAny (model prog w) A (emitB (.List [.Name x0 a0, .Name x1 a1, .Name x2 a2] lp) (.ref D) (compEnvC scope cl C env)) (fun _ s' => NRes s C D m K ys (fun _ => False) [[u0, u1, u2]] s') E s := by
  unfold emitB
  refine wpAny_bind (wpAny_List ?_)
  refine spliced_more (comp_name hkind h0 hn v0 d0 ?_) rfl
  refine spliced_more (comp_name hkind h1 hn v1 d1 ?_) rfl
  refine spliced_more (comp_name hkind h2 hn v2 d2 ?_) rfl
  refine spliced_none ?_
  refine ⟨by rw [sizeLine_eq]; exact Nat.le_of_ble_eq_true rfl, ?_⟩
  have hDl : D < s.heap.objs.size := Heap.lt_size hD
  have hD' : (s.heap.push (wordO [u0, u1, u2])).get? D = some (lst ys) := Heap.get?_push_of_some _ hD
  refine wpAny_bind (append_at (hsz := by rw [List.size_toArray]; exact hsz) hD' fun h' hs' hD'' => wpAny_pure ?_)
  have hs' : Heap.SameBut D (s.heap.push (wordO [u0, u1, u2])) h' := hs'
  have up : ∀ b o, b ≠ D → s.heap.get? b = some o → h'.get? b = some o := fun b o hb e => hs'.extBut b o hb (Heap.get?_push_of_some _ e)
  refine ⟨h', _, m, [(s.heap.objs.size, [u0, u1, u2])], rfl, hn.at' fun o e => up _ o hCD e, fun _ _ => rfl, ?_, fun b o _ hb _ e => up b o hb e, fun p hp => ?_, rfl⟩
  · rw [hD'']; exact congrArg some (lst_snoc ys _)
  · rw [List.mem_singleton.mp hp]
    refine ⟨hs'.extBut _ _ (Nat.ne_of_gt hDl) (Heap.get?_push_size _ rfl), ?_⟩
    cases e : s.heap.get? s.heap.objs.size with
    | none => rfl
    | some o => exact absurd (Heap.lt_size e) (Nat.lt_irrefl _)
/-- an inner loop as a body -/
theorem inner_loop {e : PySem.Expr} {d : Nat} {cl : List (Str × Addr)} {C D c ax : Addr} {oc oax : Obj} {m : Loc} {ys : List Value} {K : Str → Prop} {vs : List Value} {nv : Nat} {us : List (List Value)} {py : Pos} {g : Comprehension}
    (hkind : scope.kind = .function) (hcl : cl.lookup y = some c) (hy : (compEnvC scope cl C env).kindOf y = some .cell) (dy : (y == ("__debug__" : Str)) = false)
    (hoc : s.heap.get? c = some oc) (hcd : oc.data = .cell (some (.ref ax))) (hax : s.heap.get? ax = some oax) (hac : oax.cls = .type "list") (had : oax.data = .seq vs.toArray nv)
    (hg : (clausesOf e)[d]? = some g) (ha : g.is_async = 0) (hnf : ∀ it acc, (Code.compStart e d it acc (compEnvC scope cl C env)).isFrame = false)
    (hund : ∀ it acc, A.under (Code.compStart e d it acc (compEnvC scope cl C env)) = A)
    (hq : ∀ it acc, (Code.compLoop e d it acc (compEnvC scope cl C env)).quiet = true)
    (hn : s.heap.Ns C m) (hD : s.heap.get? D = some (lst ys))
    (hloop : ∀ (R : Result → Shared → Prop) (s₂ : Shared) I, s₂ = { s with heap := s.heap.push { cls := .type "list_iterator", data := .fields #[.ref ax, .int 0 0] } } → s₂.heap.IsListIter I ax 0 → s₂.heap.Ns C m → s₂.heap.get? D = some (lst ys) → (∀ b o, s.heap.get? b = some o → s₂.heap.get? b = some o ∧ b ≠ I) →
      (∀ s', NRes s₂ C D m K ys (fun b => b = I) us s' → R (.ok .next) s') → codeAny (model prog w) A (.compLoop e d (.ref I) (.ref D) (compEnvC scope cl C env)) R s₂)
    (hs : ∀ x, foldedSetIterable (.Name y py) (compEnvC scope cl C env) x = pure x := by intro _; rfl) :
    wpAny (model prog w) A (innerB e d (.Name y py) (.ref D) (compEnvC scope cl C env)) (fun _ s' => NRes s C D m K ys (fun _ => False) us s') E s := by
  unfold innerB
  refine wpAny_bind (wpAny_Name (wpAny_loadName_cell (env := compEnvC scope cl C env) hkind hy hcl ⟨oc, hoc, hcd⟩ ?_) dy)
  refine wpAny_bind (wpAny_standAt (wpAny_bind (wpAny_of_eq (hs _) ?_)))
  refine wpAny_bind (wpAny_holding (wpAny_pyIter_list ⟨oax, hax, hac, nv, had⟩ ?_))
  refine wpAny_bind (wpAny_runOwn ?_)
  have hI : ({ s with heap := s.heap.push { cls := .type "list_iterator", data := .fields #[.ref ax, .int 0 0] } } : Shared).heap.IsListIter s.heap.objs.size ax 0 := ⟨_, Heap.get?_push_size _ rfl, rfl, rfl⟩
  have up : ∀ b o, s.heap.get? b = some o → (s.heap.push { cls := .type "list_iterator", data := .fields #[.ref ax, .int 0 0] }).get? b = some o ∧ b ≠ s.heap.objs.size := fun b o e => ⟨Heap.get?_push_of_some _ e, Nat.ne_of_lt (Heap.lt_size e)⟩
  refine comp_start hg ha (hnf _ _) (hund _ _) (hq _ _) (hloop _ _ _ rfl hI (hn.at' fun o e => (up _ _ e).1) (up _ _ hD).1 up fun s' hr => ?_) (fun Q E hQ => wpAny_pyIter_listiter hI hQ)
  obtain ⟨h', tk, m', ws, rfl, hC', hm', hD', hkeep, hws, hus⟩ := hr
  refine wpAny_pure ⟨h', tk, m', ws, rfl, hC', hm', hD', fun b o h1 h2 _ e => hkeep b o h1 h2 (up b o e).2 (up b o e).1, fun p hp => ⟨(hws p hp).1, ?_⟩, hus⟩
  have z := (hws p hp).2
  cases e : s.heap.get? p.1 with
  | none => rfl
  | some o => rw [(up _ _ e).1] at z; cases z
end
end Mine
end
section
open PySem PySem.W PyProof.Rows PySem.Calls PyProof.Rows.LCg
set_option maxHeartbeats 1000000
namespace Mine
theorem flat_one {α β : Type} (f : α → β) : ∀ l : List α, (l.flatMap fun c => [f c]) = l.map f
  | [] => rfl
  | a :: l => by rw [List.flatMap_cons, flat_one f l]; rfl
section
variable {prog : Program} {w : World} {A : Around} {E : Value → Shared → Prop} {s : Shared} {env : Env}
/-- the making of a comprehension's list and table of names -/
theorem comp_open {e : PySem.Expr} {it : Value} {scope : Scope} {cl : List (Str × Addr)} {s₂ : Shared} {RR : Value → Addr → Result → Shared → Prop} (hcell : ∀ y ∈ scope.names, y.2 ≠ .cell) (hkind : scope.kind = .function)
    (h : ∀ h₁ tk C D, C ≠ D → (∀ b o, s₂.heap.get? b = some o → h₁.get? b = some o ∧ b ≠ C ∧ b ≠ D) → h₁.get? D = some (lst []) → (∃ m', h₁.Ns C m') → s₂.heap.get? C = none → s₂.heap.get? D = none →
      codeAny (model prog w) A (.compStart e 0 it (.ref D) (compEnvC scope cl C env)) (RR (.ref D) C) { s₂ with heap := h₁, toks := tk }) :
    wpAny (model prog w) A (newList []) (fun acc s₃ => wpAny (model prog w) A (newFunctionEnv scope env.globals cl [] env.qual none .none (some env)) (fun cenv s₄ =>
      codeAny (model prog w) A (.compStart e 0 it acc { cenv with scope := relabel scope env }) (RR acc cenv.locals) s₄) E s₃) E s₂ := by
  refine wpAny_newObj_type (wpAny_newFunctionEnv hcell (by intro y hy; simp at hy) (fun h₁ hns₁ hsb₁ => ?_) hkind)
  dsimp only at hns₁ hsb₁ ⊢
  generalize hH2 : s₂.heap.push { cls := .type "list", dict := none, data := .seq ([] : List Value).toArray } = H2 at hns₁ hsb₁ ⊢
  have hC : H2.objs.size = s₂.heap.objs.size + 1 := by rw [← hH2, Heap.size_push]
  have fresh : ∀ a, s₂.heap.objs.size ≤ a → s₂.heap.get? a = none := fun a ha => by
    cases e : s₂.heap.get? a with
    | none => rfl
    | some o' => exact absurd (Heap.lt_size e) (Nat.not_lt.mpr ha)
  have below : ∀ b, b < s₂.heap.objs.size → b ≠ H2.objs.size ∧ b ≠ s₂.heap.objs.size := fun b hb => ⟨by rw [hC]; exact Nat.ne_of_lt (Nat.lt_succ_of_lt hb), Nat.ne_of_lt hb⟩
  have hDC : H2.objs.size ≠ s₂.heap.objs.size := by rw [hC]; exact Nat.succ_ne_self _
  refine h h₁ _ H2.objs.size s₂.heap.objs.size hDC (fun b o e => ?_) ?_ ⟨_, hns₁⟩ (fresh _ (by rw [hC]; exact Nat.le_succ _)) (fresh _ (Nat.le_refl _))
  · have z := below b (Heap.lt_size e)
    exact ⟨hsb₁.extBut b o z.1 (Heap.get?_push_of_some _ (hH2 ▸ Heap.get?_push_of_some _ e)), z⟩
  · exact hsb₁.extBut _ _ (Ne.symm hDC) (Heap.get?_push_of_some _ (hH2 ▸ Heap.get?_push_size _ rfl))
variable {x0 x1 x2 y z : Str} {a0 a1 a2 p0 p1 p2 q0 q1 q2 lp pos pz spos : Pos} {scope : Scope}
theorem nest_assign {h₀ : Heap} {L : Addr} {m : Loc} {news : Led} {cl : List (Str × Addr)} {c ax : Addr} {oc oax : Obj} {vs : List Value} {nv : Nat} {Q : Flow → Shared → Prop} (hh : A.handled = none) (F : Fr h₀ L s.heap m) (N : News h₀ L s.heap news) (hLe : env.locals = L)
    (hoc : (c, oc) ∈ news) (hcd : oc.data = .cell (some (.ref ax))) (hax : (ax, oax) ∈ news) (hac : oax.cls = .type "list") (had : oax.data = .seq vs.toArray nv) (hv3 : vs.length = 3)
    (hsw : swapsWith (nestE x0 x1 x2 y a0 a1 a2 p0 p1 p2 q0 q1 q2 lp pos scope) (some (.Name z pz)) spos.line env = pure true)
    (hclos : closureFor scope env = pure cl) (hcell : ∀ z ∈ scope.names, z.2 ≠ .cell) (hkind : scope.kind = .function)
    (hnames : ∀ z ∈ scope.names, z.2 = .local → scope.names.lookup z.1 = some .local) (h0 : scope.names.lookup x0 = some .local) (h1 : scope.names.lookup x1 = some .local) (h2 : scope.names.lookup x2 = some .local)
    (d0 : (x0 == ("__debug__" : Str)) = false) (d1 : (x1 == ("__debug__" : Str)) = false) (d2 : (x2 == ("__debug__" : Str)) = false) (dy : (y == ("__debug__" : Str)) = false)
    (n01 : x0 ≠ x1) (n02 : x0 ≠ x2) (n12 : x1 ≠ x2)
    (hek : env.scope.kind = .function) (hey : env.kindOf y = some .cell) (hec : env.cells.lookup y = some c) (hcl : cl.lookup y = some c) (hcy : ∀ C, (compEnvC scope cl C env).kindOf y = some .cell)
    (hz : env.kindOf z = some .local)
    (hund1 : ∀ d it acc C, A.under (Code.compStart (nestE x0 x1 x2 y a0 a1 a2 p0 p1 p2 q0 q1 q2 lp pos scope) d it acc (compEnvC scope cl C env)) = A) (hund2 : ∀ d it acc C, A.under (Code.compLoop (nestE x0 x1 x2 y a0 a1 a2 p0 p1 p2 q0 q1 q2 lp pos scope) d it acc (compEnvC scope cl C env)) = A)
    (ret : ∀ (ws : WList) D h tk, Fr h₀ L h (fun u => if u = z then some (.ref D) else m u) → News h₀ L h ((D, lst (ws.map fun p => Value.ref p.1)) :: ((ws.map fun p => (p.1, wordO p.2)) ++ news)) → (∀ p ∈ news, p.1 ≠ D ∧ ∀ q ∈ ws, q.1 ≠ p.1) → (∀ q ∈ ws, q.1 ≠ D) →
      ws.map (·.2) = vs.flatMap (fun a => vs.flatMap fun b => vs.map fun c => [a, b, c]) → Q .next { s with heap := h, toks := tk }) :
    wpAny (model prog w) A (exec (.Assign [.Name z pz] (nestE x0 x1 x2 y a0 a1 a2 p0 p1 p2 q0 q1 q2 lp pos scope) spos) env) Q E s := by
  subst hLe
  rw [exec_Assign_Name_used _ _ _ _ hsw]
  refine wpAny_bind (wpAny_standAt (wpAny_bind ?_))
  show wpAny _ A (do let _ ← comprehension (nestE x0 x1 x2 y a0 a1 a2 p0 p1 p2 q0 q1 q2 lp pos scope) scope env _ (newList []) false (eval (.Name y q0) env) (some (assign (.Name z pz) env))) _ _ s
  refine wpAny_bind (wpAny_mono (wpAny_comprehension_free (use := some (assign (.Name z pz) env)) (Q := fun _ s' => Q .next s') rfl (by intro _; rfl) hclos hkind hnames ?_) (fun _ s' hq => wpAny_pure (wpAny_pure hq)) fun _ _ e => e)
  refine wpAny_Name (wpAny_loadName_cell hek hey hec ⟨oc, (N _ hoc).1, hcd⟩ ?_) dy
  refine wpAny_pyIter_list ⟨oax, (N _ hax).1, hac, nv, had⟩ ?_
  refine comp_open hcell hkind fun h₁ tk₁ C D hCD up hD hC nC nD => ?_
  obtain ⟨mc, hC⟩ := hC
  have up0 : ∀ b o, s.heap.get? b = some o → h₁.get? b = some o ∧ b ≠ C ∧ b ≠ D ∧ b ≠ s.heap.objs.size := fun b o e =>
    have z := up b o (Heap.get?_push_of_some _ e)
    ⟨z.1, z.2.1, z.2.2, Nat.ne_of_lt (Heap.lt_size e)⟩
  have hI : (s.heap.push { cls := .type "list_iterator", data := .fields #[.ref ax, .int 0 0] }).get? s.heap.objs.size = some { cls := .type "list_iterator", data := .fields #[.ref ax, .int 0 0] } := Heap.get?_push_size _ rfl
  have hI₁ := up _ _ hI
  have hGs : ∀ p ∈ [(c, oc), (ax, oax)], s.heap.get? p.1 = some p.2 := fun p hp => by
    simp only [List.mem_cons, List.not_mem_nil, or_false] at hp
    rcases hp with e | e
    · rw [e]; exact (N _ hoc).1
    · rw [e]; exact (N _ hax).1
  have itr : ({ s with heap := h₁, toks := tk₁ } : Shared).heap.IsListIter s.heap.objs.size ax 0 := ⟨_, hI₁.1, rfl, rfl⟩
  refine comp_start (g := ⟨.Name x0 p0, .Name y q0, [], 0⟩) rfl rfl rfl (hund1 0 _ _ C) rfl ?loop (fun Q E hQ => wpAny_pyIter_listiter itr hQ)
  refine level (x := x0) (G := [(c, oc), (ax, oax)]) (vs := vs) (nv := nv) (k := 9) (N := 27) (ys := []) (m := mc) (K := fun _ => False) (K' := fun u => u ≠ x1 ∧ u ≠ x2) (f := fun a => vs.flatMap fun b => vs.map fun c => [a, b, c])
    hh rfl rfl (hund2 0 _ _ C) (turn0 _ _) hkind h0 (fun _ h => h.elim) (List.mem_cons_of_mem _ List.mem_cons_self) hac had (fun p hp => ?offG) hI₁.2.1 hI₁.2.2 hCD ?hf ?hN ?body0 itr hC hD (fun p hp => (up0 _ _ (hGs p hp)).1) ?fin
  case offG => exact (up0 _ _ (hGs p hp)).2
  case hf =>
    intro v _
    rw [List.length_flatMap]
    simp [hv3, List.map_const', List.sum_replicate_nat]
  case hN => simp [hv3]
  case body0 =>
    intro v hv s₂ m₂ ys E' hC₂ hx₂ hm₂ hD₂ hl₂ hG₂
    have g1 := hG₂ (c, oc) List.mem_cons_self
    have g2 := hG₂ (ax, oax) (List.mem_cons_of_mem _ List.mem_cons_self)
    refine inner_loop (g := ⟨.Name x1 p1, .Name y q1, [], 0⟩) hkind hcl (hcy C) dy g1 hcd g2 hac had rfl rfl (fun _ _ => rfl) (fun it acc => hund1 1 it acc C) (fun _ _ => rfl) hC₂ hD₂ ?_
    intro R s₃ I es itr₃ hC₃ hD₃ up₃ fin₃
    have oI : ∀ p ∈ [(c, oc), (ax, oax)], p.1 ≠ C ∧ p.1 ≠ D ∧ p.1 ≠ I := fun p hp => ⟨(up0 _ _ (hGs p hp)).2.1, (up0 _ _ (hGs p hp)).2.2.1, (up₃ _ _ (hG₂ p hp)).2⟩
    have IC : I ≠ C := by obtain ⟨o, _, _, e, _⟩ := hC₂; exact Ne.symm (up₃ _ _ e).2
    have ID : I ≠ D := Ne.symm (up₃ _ _ hD₂).2
    refine level (x := x1) (G := [(c, oc), (ax, oax)]) (vs := vs) (nv := nv) (k := 3) (N := 27) (ys := ys) (m := m₂) (K := fun u => u ≠ x1 ∧ u ≠ x2) (K' := fun u => u ≠ x2) (f := fun b => vs.map fun c => [v, b, c])
      hh rfl rfl (hund2 1 _ _ C) (turn1 _ _) hkind h1 (fun _ h => h) (List.mem_cons_of_mem _ List.mem_cons_self) hac had oI IC ID hCD (fun u _ => by rw [List.length_map, hv3]) (by rw [hv3]; exact hl₂) ?body1 itr₃ hC₃ hD₃ (fun p hp => (up₃ _ _ (hG₂ p hp)).1) fin₃
    intro v1 hv1 s₄ m₄ ys4 E4 hC₄ hx₄ hm₄ hD₄ hl₄ hG₄
    have g1 := hG₄ (c, oc) List.mem_cons_self
    have g2 := hG₄ (ax, oax) (List.mem_cons_of_mem _ List.mem_cons_self)
    refine inner_loop (g := ⟨.Name x2 p2, .Name y q2, [], 0⟩) hkind hcl (hcy C) dy g1 hcd g2 hac had rfl rfl (fun _ _ => rfl) (fun it acc => hund1 2 it acc C) (fun _ _ => rfl) hC₄ hD₄ ?_
    intro R5 s₅ I5 es5 itr₅ hC₅ hD₅ up₅ fin₅
    have oI5 : ∀ p ∈ [(c, oc), (ax, oax)], p.1 ≠ C ∧ p.1 ≠ D ∧ p.1 ≠ I5 := fun p hp => ⟨(oI p hp).1, (oI p hp).2.1, (up₅ _ _ (hG₄ p hp)).2⟩
    have IC5 : I5 ≠ C := by obtain ⟨o, _, _, e, _⟩ := hC₄; exact Ne.symm (up₅ _ _ e).2
    have ID5 : I5 ≠ D := Ne.symm (up₅ _ _ hD₄).2
    refine level (x := x2) (G := [(c, oc), (ax, oax)]) (vs := vs) (nv := nv) (k := 1) (N := 27) (ys := ys4) (m := m₄) (K := fun u => u ≠ x2) (K' := fun _ => True) (f := fun c => [[v, v1, c]])
      hh rfl rfl (hund2 2 _ _ C) (turn2 _ _) hkind h2 (fun _ h => ⟨h, trivial⟩) (List.mem_cons_of_mem _ List.mem_cons_self) hac had oI5 IC5 ID5 hCD (fun u _ => rfl) (by rw [hv3]; exact hl₄) ?body2 itr₅ hC₅ hD₅ (fun p hp => (up₅ _ _ (hG₄ p hp)).1) (fun s' hs' => fin₅ s' ?_)
    · intro v2 hv2 s₆ m₆ ys6 E6 hC₆ hx₆ hm₆ hD₆ hl₆ hG₆
      have e1 : m₆ x1 = some v1 := (hm₆ x1 n12).trans hx₄
      have e0 : m₆ x0 = some v := (hm₆ x0 n02).trans ((hm₄ x0 ⟨n01, n02⟩).trans hx₂)
      exact emit_word hkind h0 h1 h2 d0 d1 d2 hC₆ e0 e1 hx₆ hD₆ hCD (by rw [sizeLine_eq]; omega)
    · have : (vs.flatMap fun c => [[v, v1, c]]) = vs.map fun c => [v, v1, c] := flat_one _ _
      rw [this] at hs'
      exact hs'
  case fin =>
    rintro s' ⟨h', tk, m', ws, rfl, hC', hm', hD', hkeep, hws, hus⟩
    have hL₁ := F.ns
    obtain ⟨oL, es, ep, hL, hLr⟩ := F.ns
    have uL := up0 _ _ hL
    have F' : Fr h₀ env.locals h' m := ⟨⟨oL, es, ep, hkeep _ _ uL.2.1 uL.2.2.1 uL.2.2.2 uL.1, hLr⟩, fun b o e => have z := up0 _ _ (F.keep b o e); hkeep _ _ z.2.1 z.2.2.1 z.2.2.2 z.1, F.above⟩
    show wpAny _ A (assign (.Name z pz) env (.ref D)) _ _ _
    have hp : (env.scope.kind == .class || (env.scope.kind == .module && env.locals != env.globals)) = false := by rw [hek]; rfl
    refine wpAny_assign_Name (wpAny_storeName_local hz F'.ns (fun h₂ hn₂ hs₂ => ?_) hp)
    have hs₂ : Heap.SameBut env.locals h' h₂ := hs₂
    have hL₀ : h₀.get? env.locals = none := Heap.get?_none_of_le F'.above
    have F₂ : Fr h₀ env.locals h₂ (fun u => if u = z then some (.ref D) else m u) := ⟨hn₂, fun b o e => hs₂.extBut b o (fun q => by rw [q, hL₀] at e; cases e) (F'.keep b o e), F'.above⟩
    have n0 : ∀ a, s.heap.get? a = none → h₀.get? a = none := fun a e => by
      cases q : h₀.get? a with
      | none => rfl
      | some o => rw [F.keep _ _ q] at e; cases e
    have nS : ∀ a, (s.heap.push { cls := .type "list_iterator", data := .fields #[.ref ax, .int 0 0] }).get? a = none → s.heap.get? a = none := fun a e => by
      cases q : s.heap.get? a with
      | none => rfl
      | some o => rw [Heap.get?_push_of_some _ q] at e; cases e
    have n1 : ∀ a, h₁.get? a = none → s.heap.get? a = none := fun a e => by
      cases q : s.heap.get? a with
      | none => rfl
      | some o => rw [(up0 _ _ q).1] at e; cases e
    have hCL : C ≠ env.locals := Ne.symm uL.2.1
    have wC : ∀ q ∈ ws, q.1 ≠ C := fun q hq e => by obtain ⟨o, _, _, e1, _⟩ := hC; have := (hws q hq).2; rw [e] at this; exact absurd (this.symm.trans e1) (by simp)
    have wD : ∀ q ∈ ws, q.1 ≠ D := fun q hq e => by have := (hws q hq).2; rw [e, hD] at this; cases this
    refine ⟨m', hC'.sameBut hs₂ hCL, fun h'' hs'' => ?_⟩
    have hs'' : Heap.SameBut C h₂ h'' := hs''
    have all : ∀ b o, b ≠ env.locals → b ≠ C → h'.get? b = some o → h''.get? b = some o := fun b o h1 h2 e => hs''.extBut b o h2 (hs₂.extBut b o h1 e)
    have wL : ∀ a, s.heap.get? a = none → a ≠ env.locals := fun a e q => by rw [q, hL] at e; cases e
    refine ret ws D h'' _ (F₂.change hs'' hCL (n0 _ (nS _ nC))) (fun p hp => ?_) (fun p hp => ⟨(up0 _ _ (N p hp).1).2.2.1, fun q hq e => ?_⟩) wD hus
    · rcases List.mem_cons.mp hp with e | hp
      · rw [e]
        have : D ≠ env.locals := Ne.symm uL.2.2.1
        refine ⟨all _ _ this (Ne.symm hCD) ?_, this, n0 _ (nS _ nD)⟩
        rw [hD']; rfl
      · rcases List.mem_append.mp hp with hp | hp
        · obtain ⟨q, hq, e⟩ := List.mem_map.mp hp
          rw [← e]
          have z := hws q hq
          have nq := n1 _ z.2
          exact ⟨all _ _ (wL _ nq) (wC q hq) z.1, wL _ nq, n0 _ nq⟩
        · have z := up0 _ _ (N p hp).1
          exact ⟨all _ _ (N p hp).2.1 z.2.1 (hkeep _ _ z.2.1 z.2.2.1 z.2.2.2 z.1), (N p hp).2⟩
    · have := n1 _ (hws q hq).2
      rw [e, (N p hp).1] at this; cases this
end
end Mine
end
section
open PySem PySem.W PyProof.Rows PySem.Calls PyProof.Rows.LCg
set_option maxHeartbeats 1000000
namespace Mine
noncomputable def Off4 (I J C D : Addr) (nw : Led) : Prop := ∀ p ∈ nw, p.1 ≠ I ∧ p.1 ≠ J ∧ p.1 ≠ C ∧ p.1 ≠ D
/-- the end of an element's evaluation -/
noncomputable def PElt (h₀ : Heap) (L : Addr) (m : Loc) (s₁ : Shared) (I : Addr) (oI : Obj) (J : Addr) (oJ : Obj) (C : Addr) (oC : Obj) (D : Addr) (ys : List Value) (S : Led → Prop) (rest : Value → Led → Prop) (y : Value) (s₂ : Shared) : Prop :=
  ∃ h' tk nw', s₂ = { s₁ with heap := h', toks := tk } ∧ Fr h₀ L h' m ∧ News h₀ L h' ((I, oI) :: (J, oJ) :: (C, oC) :: (D, lst ys) :: nw') ∧ Off4 I J C D nw' ∧ S nw' ∧ rest y nw'
theorem PElt.intro {h₀ : Heap} {L I J C D : Addr} {m : Loc} {s₁ : Shared} {oI oJ oC : Obj} {ys : List Value} {S : Led → Prop} {rest : Value → Led → Prop} {y : Value} {h' : Heap} {tk : Nat} {all : Led}
    (F : Fr h₀ L h' m) (N : News h₀ L h' all) (nw' : Led) (sub : ∀ p ∈ (I, oI) :: (J, oJ) :: (C, oC) :: (D, lst ys) :: nw', p ∈ all) (off : Off4 I J C D nw') (hS : S nw') (r : rest y nw') :
    PElt h₀ L m s₁ I oI J oJ C oC D ys S rest y { s₁ with heap := h', toks := tk } := ⟨h', tk, nw', rfl, F, fun p hp => N p (sub p hp), off, hS, r⟩
/-- the end of a turn -/
noncomputable def PTurn (h₀ : Heap) (L : Addr) (m : Loc) (s₁ : Shared) (I : Addr) (oI : Obj) (J : Addr) (oJ : Obj) (C : Addr) (oC : Obj) (D : Addr) (S : Led → Prop) (G : List Value → Led → Prop) (s₂ : Shared) : Prop :=
  ∃ ys h' tk nw', s₂ = { s₁ with heap := h', toks := tk } ∧ Fr h₀ L h' m ∧ News h₀ L h' ((I, oI) :: (J, oJ) :: (C, oC) :: (D, lst ys) :: nw') ∧ Off4 I J C D nw' ∧ S nw' ∧ G ys nw'
section
variable {prog : Program} {w : World} {A : Around} {E : Value → Shared → Prop} {s : Shared} {env : Env} {h₀ : Heap} {L I J C D : Addr} {m : Loc}
theorem emit_end {elt : PySem.Expr} {cenv : Env} {oI oJ oC : Obj} {ys : List Value} {S : Led → Prop} {G : List Value → Led → Prop} {s₁ : Shared} (hsz : ys.length ≤ sizeLine) (hD : D ≠ L ∧ h₀.get? D = none ∧ I ≠ D ∧ J ≠ D ∧ C ≠ D)
    (h : wpAny (model prog w) A (eval elt cenv) (PElt h₀ L m s₁ I oI J oJ C oC D ys S (fun y nw => G (ys ++ [y]) nw)) E s) :
    wpAny (model prog w) A (emitB elt (.ref D) cenv) (fun _ s' => PTurn h₀ L m s₁ I oI J oJ C oC D S G s') E s := by
  unfold emitB
  refine wpAny_bind (wpAny_mono h (fun y s' hy => ?_) fun _ _ e => e)
  obtain ⟨h', tk, nw', rfl, F, N, off, hS, r⟩ := hy
  have zD := (N (D, lst ys) (List.mem_cons_of_mem _ (List.mem_cons_of_mem _ (List.mem_cons_of_mem _ List.mem_cons_self)))).1
  refine wpAny_bind (append_at (hsz := by rw [List.size_toArray]; exact hsz) zD fun h₅ hs₅ hD₅ => wpAny_pure ?_)
  have hs₅ : Heap.SameBut D h' h₅ := hs₅
  refine ⟨ys ++ [y], h₅, tk, nw', rfl, F.change hs₅ hD.1 hD.2.1, fun p hp => ?_, off, hS, r⟩
  have up : ∀ p ∈ (I, oI) :: (J, oJ) :: (C, oC) :: (D, lst ys) :: nw', p.1 ≠ D → h₅.get? p.1 = some p.2 ∧ p.1 ≠ L ∧ h₀.get? p.1 = none := fun p hp hn => ⟨hs₅.extBut _ _ hn (N p hp).1, (N p hp).2⟩
  simp only [List.mem_cons] at hp
  rcases hp with e | e | e | e | e
  · rw [e]; exact up _ (by simp) hD.2.2.1
  · rw [e]; exact up _ (by simp) hD.2.2.2.1
  · rw [e]; exact up _ (by simp) hD.2.2.2.2
  · rw [e]; exact ⟨hD₅.trans (congrArg some (lst_snoc ys y)), hD.1, hD.2.1⟩
  · exact up p (by simp [e]) (off p e).2.2.2
noncomputable def testB (c elt : PySem.Expr) (acc : Value) (env : Env) : Sem Unit := isTrue c env (eval c env) >>= fun ok => if ok then emitB elt acc env else pure ()
theorem test_end {c elt : PySem.Expr} {cenv : Env} {oI oJ oC : Obj} {ys : List Value} {S : Led → Prop} {G : List Value → Led → Prop} {s₁ : Shared} (hsz : ys.length ≤ sizeLine) (hD : D ≠ L ∧ h₀.get? D = none ∧ I ≠ D ∧ J ≠ D ∧ C ≠ D)
    (h : wpAny (model prog w) A (isTrue c cenv (eval c cenv)) (fun ok s' => if ok = true then wpAny (model prog w) A (eval elt cenv) (PElt h₀ L m s₁ I oI J oJ C oC D ys S (fun y nw => G (ys ++ [y]) nw)) E s'
      else PElt h₀ L m s₁ I oI J oJ C oC D ys S (fun _ nw => G ys nw) Value.none s') E s) :
    wpAny (model prog w) A (testB c elt (.ref D) cenv) (fun _ s' => PTurn h₀ L m s₁ I oI J oJ C oC D S G s') E s := by
  unfold testB
  refine wpAny_bind (wpAny_mono h (fun ok s' hy => ?_) fun _ _ e => e)
  cases ok with
  | true => exact emit_end hsz hD hy
  | false =>
    obtain ⟨h', tk, nw', rfl, F, N, off, hS, r⟩ := hy
    exact wpAny_pure ⟨ys, h', tk, nw', rfl, F, N, off, hS, r⟩
theorem pair_loop {e : PySem.Expr} {p : Pos} {a b : Str} {pa pb tp : Pos} {kk : Nat} {scope : Scope} {cl : List (Str × Addr)} {body : Sem Unit} {fp : List Addr} {n : Nat} {P Md : Nat → Value → Heap → Prop} {St : Nat → Heap → Prop} {S : Led → Prop} {V : Nat → Value → Value → Prop} {R : Result → Shared → Prop} {G : Nat → List Value → Led → Prop} {nw : Led} {m₀ : Loc}
    (hh : A.handled = none) (W : KTurns prog w A (.Tuple [.Name a pa, .Name b pb] kk tp) I fp [I, J] n P Md St) (hnf : (Code.compLoop e 0 (.ref I) (.ref D) (compEnvC scope cl C env)).isFrame = false) (hq : (Code.compLoop e 0 (.ref I) (.ref D) (compEnvC scope cl C env)).quiet = true)
    (hund : A.under (Code.compLoop e 0 (.ref I) (.ref D) (compEnvC scope cl C env)) = A)
    (hden : compTurn e 0 (.ref I) (.ref D) (compEnvC scope cl C env) = turnOf e 0 p (.Tuple [.Name a pa, .Name b pb] kk tp) (.ref I) (.ref D) (compEnvC scope cl C env) body)
    (hkind : scope.kind = .function) (hxa : scope.names.lookup a = some .local) (hxb : scope.names.lookup b = some .local) (hab : a ≠ b)
    (hO : ∀ i h, St i h → (∃ o, h.get? I = some o) ∧ ∃ o, h.get? J = some o)
    (hSt : ∀ i h h' nw, St i h → h'.get? I = h.get? I → h'.get? J = h.get? J → (∀ b o, h₀.get? b = some o → h'.get? b = some o) → News h₀ L h' nw → S nw → St i h')
    (hT : ∀ i v h ys nw, i < n → P i v h → G i ys nw → News h₀ L h nw → ∃ T v₁ v₂, v = .ref T ∧ h.IsTuple T #[v₁, v₂] ∧ V i v₁ v₂)
    (nI : I ≠ C ∧ I ≠ D ∧ I ≠ L ∧ h₀.get? I = none) (nJ : J ≠ C ∧ J ≠ D ∧ J ≠ L ∧ h₀.get? J = none) (nC : C ≠ D ∧ C ≠ L ∧ h₀.get? C = none) (nD : D ≠ L ∧ h₀.get? D = none)
    (F : Fr h₀ L s.heap m) (N : News h₀ L s.heap ((D, lst []) :: nw)) (off : Off4 I J C D nw) (hst : St 0 s.heap) (hC : s.heap.Ns C m₀) (hS : S nw) (hG : G 0 [] nw)
    (turn : ∀ i ys nw v₁ v₂ oI oJ oC m₂ h tk (E' : Value → Shared → Prop), i < n → G i ys nw → V i v₁ v₂ → NsObj oC m₂ → m₂ a = some v₁ → m₂ b = some v₂ → Fr h₀ L h m → News h₀ L h ((I, oI) :: (J, oJ) :: (C, oC) :: (D, lst ys) :: nw) → Off4 I J C D nw → S nw →
      wpAny (model prog w) A body (fun _ s' => PTurn h₀ L m s I oI J oJ C oC D S (G (i + 1)) s') E' { s with heap := h, toks := tk })
    (fin : ∀ ys nw h tk m', G n ys nw → Fr h₀ L h m → News h₀ L h ((D, lst ys) :: nw) → Off4 I J C D nw → h.Ns C m' → R (.ok .next) { s with heap := h, toks := tk }) :
    codeAny (model prog w) A (.compLoop e 0 (.ref I) (.ref D) (compEnvC scope cl C env)) R s := by
  have mv : ∀ {h h₂ : Heap} {ys : List Value} {nw : Led} {m' : Loc}, (∀ b o, b ∉ [I, J] → h.get? b = some o → h₂.get? b = some o) → Fr h₀ L h m → News h₀ L h ((D, lst ys) :: nw) → Off4 I J C D nw → h.Ns C m' →
      Fr h₀ L h₂ m ∧ News h₀ L h₂ ((D, lst ys) :: nw) ∧ h₂.Ns C m' := by
    intro h h₂ ys nw m' hk F N off hC
    have k2 : ∀ b o, b ≠ I → b ≠ J → h.get? b = some o → h₂.get? b = some o := fun b o h1 h2 e => hk b o (by simp [h1, h2]) e
    refine ⟨⟨F.ns.at' fun o e => k2 _ o (Ne.symm nI.2.2.1) (Ne.symm nJ.2.2.1) e, fun b o e => k2 b o (fun q => by rw [q, nI.2.2.2] at e; cases e) (fun q => by rw [q, nJ.2.2.2] at e; cases e) (F.keep b o e), F.above⟩, fun p hp => ?_, hC.at' fun o e => k2 _ o (Ne.symm nI.1) (Ne.symm nJ.1) e⟩
    refine ⟨?_, (N p hp).2⟩
    rcases List.mem_cons.mp hp with e | hp'
    · rw [e] at hp ⊢; exact k2 _ _ (Ne.symm nI.2.1) (Ne.symm nJ.2.1) (N _ hp).1
    · exact k2 _ _ (off p hp').1 (off p hp').2.1 (N p hp).1
  refine comp_turns W hnf hq hund hden (fun i s' => ∃ h tk m' ys nw, s' = { s with heap := h, toks := tk } ∧ St i h ∧ Fr h₀ L h m ∧ h.Ns C m' ∧ News h₀ L h ((D, lst ys) :: nw) ∧ Off4 I J C D nw ∧ S nw ∧ G i ys nw)
    (fun i s' hI => by obtain ⟨h, tk, m', ys, nw, rfl, st, _⟩ := hI; exact st) (fun i s' hi hI v h₂ tk₂ E' hP hst₂ hk => ?_) (fun s' hI h' tk' hk => ?_) ⟨s.heap, s.toks, m₀, [], nw, rfl, hst, F, hC, N, off, hS, hG⟩
  · obtain ⟨h, tk, m', ys, nw, rfl, st, F, hC, N, off, hS, hG⟩ := hI
    obtain ⟨F₂, N₂, hC₂⟩ := mv hk F N off hC
    obtain ⟨T, v₁, v₂, rfl, hTp, hV⟩ := hT i v h₂ ys nw hi hP hG (fun p hp => N₂ p (List.mem_cons_of_mem _ hp))
    refine kcp_assign (env := compEnvC scope cl C env) hh hTp (lookup_relabel_local hxa) (lookup_relabel_local hxb) (by simp [compEnvC, relabel, hkind]) hC₂ fun h₃ tk₃ hn₃ hs₃ => ?_
    have hs₃ : ∀ c o, c ≠ C → h₂.get? c = some o → h₃.get? c = some o := hs₃
    obtain ⟨⟨oI, hoI⟩, ⟨oJ, hoJ⟩⟩ := hO _ _ hst₂
    obtain ⟨oC, heC, hoC⟩ := ns_obj hn₃
    have F₃ : Fr h₀ L h₃ m := ⟨F₂.ns.at' fun o e => hs₃ _ o (Ne.symm nC.2.1) e, fun b o e => hs₃ b o (fun q => by rw [q, nC.2.2] at e; cases e) (F₂.keep b o e), F₂.above⟩
    have N₃ : News h₀ L h₃ ((I, oI) :: (J, oJ) :: (C, oC) :: (D, lst ys) :: nw) := fun p hp => by
      rcases List.mem_cons.mp hp with e | hp
      · rw [e]; exact ⟨hs₃ _ _ nI.1 hoI, nI.2.2⟩
      rcases List.mem_cons.mp hp with e | hp
      · rw [e]; exact ⟨hs₃ _ _ nJ.1 hoJ, nJ.2.2⟩
      rcases List.mem_cons.mp hp with e | hp
      · rw [e]; exact ⟨heC, nC.2⟩
      refine ⟨hs₃ _ _ ?_ (N₂ p hp).1, (N₂ p hp).2⟩
      rcases List.mem_cons.mp hp with e | hp
      · rw [e]; exact Ne.symm nC.1
      · exact (off p hp).2.2.1
    refine wpAny_mono (turn i ys nw v₁ v₂ oI oJ oC _ h₃ _ E' hi hG hV hoC (by simp [hab]) (by simp) F₃ N₃ off hS) (fun _ s' hs' => ?_) fun _ _ e => e
    obtain ⟨ys', h₄, tk₄, nw', rfl, F₄, N₄, off₄, hS₄, hG₄⟩ := hs'
    have z1 := (N₄ _ List.mem_cons_self).1
    have z2 := (N₄ _ (List.mem_cons_of_mem _ List.mem_cons_self)).1
    have z3 := (N₄ _ (List.mem_cons_of_mem _ (List.mem_cons_of_mem _ List.mem_cons_self))).1
    exact ⟨h₄, tk₄, _, ys', nw', rfl, hSt _ _ _ nw' hst₂ (z1.trans hoI.symm) (z2.trans hoJ.symm) F₄.keep (fun p hp => N₄ p (List.mem_cons_of_mem _ (List.mem_cons_of_mem _ (List.mem_cons_of_mem _ (List.mem_cons_of_mem _ hp))))) hS₄, F₄, hoC.ns z3, fun p hp => N₄ p (List.mem_cons_of_mem _ (List.mem_cons_of_mem _ (List.mem_cons_of_mem _ hp))), off₄, hS₄, hG₄⟩
  · obtain ⟨h, tk, m', ys, nw, rfl, st, F, hC, N, off, hS, hG⟩ := hI
    obtain ⟨F₂, N₂, hC₂⟩ := mv hk F N off hC
    exact fin ys nw h' tk' m' hG F₂ N₂ off hC₂
end
end Mine
end
section
open PySem PySem.W PyProof.Rows PySem.Calls PyProof.Rows.LCg
set_option maxHeartbeats 1000000
namespace Mine
/-- what is left once a comprehension's source is known -/
noncomputable def PIter (prog : Program) (w : World) (A : Around) (E : Value → Shared → Prop) (e : PySem.Expr) (scope : Scope) (cl : List (Str × Addr)) (env : Env) (Q : Value → Shared → Prop) (xv : Value) (s₁ : Shared) : Prop :=
  wpAny (model prog w) A (pyIter xv) (fun it s₂ => wpAny (model prog w) A (newList []) (fun acc s₃ => wpAny (model prog w) A (newFunctionEnv scope env.globals cl [] env.qual none .none (some env)) (fun cenv s₄ =>
    codeAny (model prog w) A (.compStart e 0 it acc { cenv with scope := relabel scope env }) (compPost (model prog w) A E none Q acc cenv.locals) s₄) E s₃) E s₂) E s₁
section
variable {prog : Program} {w : World} {A : Around} {E : Value → Shared → Prop} {s : Shared} {env : Env} {h₀ : Heap} {L : Addr} {m : Loc}
theorem pair_eval {elt target iter : PySem.Expr} {ifs : List PySem.Expr} {scope : Scope} {cl : List (Str × Addr)} {pos : Pos} {Q : Value → Shared → Prop} (_F₀ : Fr h₀ L s.heap m)
    (hclos : closureFor scope env = pure cl) (hkind : scope.kind = .function) (hnames : ∀ y ∈ scope.names, y.2 = .local → scope.names.lookup y.1 = some .local)
    (h : wpAny (model prog w) A (eval iter env) (PIter prog w A E (.ListComp elt [⟨target, iter, ifs, 0⟩] scope pos) scope cl env Q) E s)
    (hs : ∀ x, foldedSetIterable iter env x = pure x := by intro _; rfl) :
    wpAny (model prog w) A (eval (.ListComp elt [⟨target, iter, ifs, 0⟩] scope pos) env) Q E s := by
  rw [eval_ListComp]
  exact wpAny_comprehension_free (use := none) rfl hs hclos hkind hnames h
/-- what stands once the list and the names of the comprehension are made -/
theorem open_facts {s₂ : Shared} {nw : Led} {h₁ : Heap} {C D : Addr} (F : Fr h₀ L s₂.heap m) (N : News h₀ L s₂.heap nw) (up : ∀ b o, s₂.heap.get? b = some o → h₁.get? b = some o ∧ b ≠ C ∧ b ≠ D) (hD : h₁.get? D = some (lst [])) (nC : s₂.heap.get? C = none) (nD : s₂.heap.get? D = none) :
    Fr h₀ L h₁ m ∧ News h₀ L h₁ ((D, lst []) :: nw) ∧ (C ≠ L ∧ h₀.get? C = none) ∧ (D ≠ L ∧ h₀.get? D = none) ∧ ∀ p ∈ nw, p.1 ≠ C ∧ p.1 ≠ D := by
  have n0 : ∀ a, s₂.heap.get? a = none → a ≠ L ∧ h₀.get? a = none := fun a e => by
    refine ⟨fun q => ?_, ?_⟩
    · obtain ⟨o, _, _, e1, _⟩ := F.ns
      rw [q, e1] at e; cases e
    · cases q : h₀.get? a with
      | none => rfl
      | some o => rw [F.keep _ _ q] at e; cases e
  refine ⟨F.keeps fun b o e => (up b o e).1, fun p hp => ?_, n0 _ nC, n0 _ nD, fun p hp => (up _ _ (N p hp).1).2⟩
  rcases List.mem_cons.mp hp with e | hp
  · rw [e]; exact ⟨hD, n0 _ nD⟩
  · exact ⟨(up _ _ (N p hp).1).1, (N p hp).2⟩
theorem turn_emit {elt target iter : PySem.Expr} {scope : Scope} {pos : Pos} (it acc : Value) : compTurn (.ListComp elt [⟨target, iter, [], 0⟩] scope pos) 0 it acc env = turnOf (.ListComp elt [⟨target, iter, [], 0⟩] scope pos) 0 iter.pos target it acc env (emitB elt acc env) := by rfl
theorem turn_test {c elt target iter : PySem.Expr} {scope : Scope} {pos : Pos} (it acc : Value) : compTurn (.ListComp elt [⟨target, iter, [c], 0⟩] scope pos) 0 it acc env = turnOf (.ListComp elt [⟨target, iter, [c], 0⟩] scope pos) 0 iter.pos target it acc env (testB c elt acc env) := by
  rw [compTurn_list]
  unfold turnOf testB
  refine congrArg (fun k => standAt iter.pos >>= k) (funext fun _ => congrArg (fun k => pyNext it >>= k) (funext fun r => ?_))
  cases r with
  | none => rfl
  | some v =>
    refine congrArg (fun k => letOwnedTupleGo target it v >>= k) (funext fun _ => congrArg (fun k => assign target env v >>= k) (funext fun _ => ?_))
    simp only [List.forIn_cons, List.forIn_nil, if_true, bind_assoc, pure_bind]
    refine congrArg (fun k => isTrue c env (eval c env) >>= k) (funext fun ok => ?_)
    cases ok with
    | true => simp [emitB, bind_assoc]
    | false => simp
variable {a b : Str} {pa pb tp : Pos} {kk : Nat} {scope : Scope} {cl : List (Str × Addr)} {Q : Value → Shared → Prop} {elt iter c : PySem.Expr} {pos : Pos} {G : Nat → List Value → Led → Prop} {nw : Led}
/-- a list of pairs as the source, with one test -/
theorem PIter.list {ax : Addr} {its : Array Value} {k n : Nat} (hh : A.handled = none) (F : Fr h₀ L s.heap m) (N : News h₀ L s.heap nw) (hm : (ax, ({ cls := .type "list", data := .seq its k } : Obj)) ∈ nw) (hn : its.size = n) (hsz : n ≤ sizeLine)
    (hcell : ∀ y ∈ scope.names, y.2 ≠ .cell) (hkind : scope.kind = .function) (hxa : scope.names.lookup a = some .local) (hxb : scope.names.lookup b = some .local) (hab : a ≠ b)
    {V : Nat → Value → Value → Prop} (hlen : ∀ i ys nw, G i ys nw → ys.length ≤ i) (hT : ∀ i v ys nw, its[i]? = some v → G i ys nw → ∃ T v₁ v₂ ot nt, v = .ref T ∧ (T, ot) ∈ nw ∧ ot.cls = .type "tuple" ∧ ot.data = .seq #[v₁, v₂] nt ∧ V i v₁ v₂)
    (hits : ∀ (i : Nat) (v : Value), its[i]? = some v → ∃ T, v = Value.ref T) (hGs : ∀ i ys nw, G i ys nw → (ax, ({ cls := .type "list", data := .seq its k } : Obj)) ∈ nw)
    (hG : G 0 [] nw)
    (hund1 : ∀ it acc C, A.under (Code.compStart (.ListComp elt [⟨.Tuple [.Name a pa, .Name b pb] kk tp, iter, [c], 0⟩] scope pos) 0 it acc (compEnvC scope cl C env)) = A) (hund2 : ∀ it acc C, A.under (Code.compLoop (.ListComp elt [⟨.Tuple [.Name a pa, .Name b pb] kk tp, iter, [c], 0⟩] scope pos) 0 it acc (compEnvC scope cl C env)) = A)
    (turn : ∀ i ys nw v₁ v₂ I oI C oC D m₂ h tk (E' : Value → Shared → Prop), i < n → G i ys nw → V i v₁ v₂ → NsObj oC m₂ → m₂ a = some v₁ → m₂ b = some v₂ → Fr h₀ L h m → News h₀ L h ((I, oI) :: (I, oI) :: (C, oC) :: (D, lst ys) :: nw) → Off4 I I C D nw →
      wpAny (model prog w) A (isTrue c (compEnvC scope cl C env) (eval c (compEnvC scope cl C env))) (fun ok s' => if ok = true then
        wpAny (model prog w) A (eval elt (compEnvC scope cl C env)) (PElt h₀ L m s I oI I oI C oC D ys (fun _ => True) (fun y nw => G (i + 1) (ys ++ [y]) nw)) E' s'
        else PElt h₀ L m s I oI I oI C oC D ys (fun _ => True) (fun _ nw => G (i + 1) ys nw) Value.none s') E' { s with heap := h, toks := tk })
    (fin : ∀ ys nw D h tk, G n ys nw → Fr h₀ L h m → News h₀ L h ((D, lst ys) :: nw) → (∀ p ∈ nw, p.1 ≠ D) → Q (.ref D) { s with heap := h, toks := tk }) :
    PIter prog w A E (.ListComp elt [⟨.Tuple [.Name a pa, .Name b pb] kk tp, iter, [c], 0⟩] scope pos) scope cl env Q (.ref ax) s := by
  subst hn
  have hl : s.heap.IsList ax its := ⟨_, (N _ hm).1, rfl, k, rfl⟩
  have hlt : ax < s.heap.objs.size := Heap.lt_size (N _ hm).1
  refine wpAny_pyIter_list hl ?_
  have up0 : ∀ b o, s.heap.get? b = some o → (s.heap.push { cls := .type "list_iterator", data := .fields #[.ref ax, .int 0 0] }).get? b = some o := fun b o e => Heap.get?_push_of_some _ e
  have F₂ := F.keeps up0
  have N₂ := N.grown up0
  have hI : (s.heap.push { cls := .type "list_iterator", data := .fields #[.ref ax, .int 0 0] }).get? s.heap.objs.size = some { cls := .type "list_iterator", data := .fields #[.ref ax, .int 0 0] } := Heap.get?_push_size _ rfl
  have nI₀ : s.heap.objs.size ≠ L ∧ h₀.get? s.heap.objs.size = none := ⟨Nat.ne_of_gt F.ns.lt, next_is_new F⟩
  refine comp_open hcell hkind fun h₁ tk₁ C D hCD up hD hC nC nD => ?_
  obtain ⟨mc, hC⟩ := hC
  obtain ⟨F₁, N₁, zC, zD, offCD⟩ := open_facts (s₂ := { s with heap := _ }) F₂ N₂ up hD nC nD
  have hI₁ := up _ _ hI
  have itr : h₁.IsListIter s.heap.objs.size ax 0 := ⟨_, hI₁.1, rfl, rfl⟩
  have KT : KTurns prog w A (.Tuple [.Name a pa, .Name b pb] kk tp) s.heap.objs.size [s.heap.objs.size, s.heap.objs.size, ax] [s.heap.objs.size, s.heap.objs.size] its.size (fun i v h => its[i]? = some v) (fun i v h => its[i]? = some v ∧ h.IsListIter s.heap.objs.size ax (i + 1) ∧ h.IsList ax its) (fun i h => h.IsListIter s.heap.objs.size ax i ∧ h.IsList ax its) := {
    sub := fun b hb => by simp at hb; simp [hb]
    frame := fun _ _ _ st hk => ⟨st.1.at fun o e => hk _ (by simp) o e, st.2.at fun o e => hk ax (by simp) o e⟩
    item := fun i s' Q E hi st hQ => by
      refine wpAny_pyNext_list_item st.1 st.2 (x := its[i]) (by simp [hi]) fun h' hit' hs' => ?_
      exact hQ _ h' s'.toks ⟨by simp [hi], hit', st.2.extBut hs'.extBut (Nat.ne_of_lt hlt)⟩ fun b o hb e => hs'.extBut b o (fun h => hb (by simp [h])) e
    go := fun i v s' Q E hm hQ => by
      obtain ⟨T, rfl⟩ := hits i v hm.1
      exact wpAny_letOwnedTupleGo_listiter hm.2.1 (hQ s'.heap hm.1 hm.2 fun _ _ _ e => e)
    done := fun s' Q E st hQ => wpAny_pyNext_list_end hh st.1 st.2 (by simp) fun h' he' => hQ h' s'.toks fun b o hb e => he' b o (fun h => hb (by simp [h])) e }
  refine comp_start (g := ⟨.Tuple [.Name a pa, .Name b pb] kk tp, iter, [c], 0⟩) rfl rfl rfl (hund1 _ _ C) rfl ?_ (fun Q E hQ => wpAny_pyIter_listiter itr hQ)
  have offI : Off4 s.heap.objs.size s.heap.objs.size C D nw := fun p hp => ⟨Nat.ne_of_lt (Heap.lt_size (N p hp).1), Nat.ne_of_lt (Heap.lt_size (N p hp).1), offCD p hp⟩
  refine pair_loop (J := s.heap.objs.size) (S := fun nw => (ax, ({ cls := .type "list", data := .seq its k } : Obj)) ∈ nw) (V := V) (G := G) (nw := nw) hh KT rfl rfl (hund2 _ _ C) (turn_test _ _) hkind hxa hxb hab (fun i h st => ?_) (fun i h h' nw st e _ kp N' hs => ⟨?_, ?_⟩) (fun i v h ys nw hi hP hG N' => ?_)
    ⟨hI₁.2.1, hI₁.2.2, nI₀⟩ ⟨hI₁.2.1, hI₁.2.2, nI₀⟩ ⟨hCD, zC⟩ zD F₁ N₁ offI ⟨itr, _, (up _ _ (up0 _ _ (N _ hm).1)).1, rfl, k, rfl⟩ hC hm hG (fun i ys nw v₁ v₂ oI oJ oC m₂ h tk E' hi hG hV hoC ha hb F' N' off' _ => ?_) (fun ys nw h tk m' hG F' N' off' hn => ⟨m', hn, fun h'' hs'' => ?_⟩)
  · obtain ⟨o, e, _⟩ := st.1
    exact ⟨⟨o, e⟩, ⟨o, e⟩⟩
  · obtain ⟨o, e1, r⟩ := st.1
    exact ⟨o, e.trans e1, r⟩
  · exact ⟨_, (N' _ hs).1, rfl, k, rfl⟩
  · obtain ⟨T, v₁, v₂, ot, nt, rfl, hmT, hc, hd, hV⟩ := hT i v ys nw hP hG
    exact ⟨T, v₁, v₂, rfl, ⟨ot, (N' _ hmT).1, hc, nt, hd⟩, hV⟩
  · have eJ : oJ = oI := by
      have e1 := (N' _ List.mem_cons_self).1
      have e2 := (N' _ (List.mem_cons_of_mem _ List.mem_cons_self)).1
      exact Option.some.inj (e2.symm.trans e1)
    subst eJ
    refine test_end (Nat.le_trans (hlen _ _ _ hG) (Nat.le_trans (Nat.le_of_lt hi) hsz)) ⟨zD.1, zD.2, hI₁.2.2, hI₁.2.2, hCD⟩ ?_
    refine wpAny_mono (turn i ys nw v₁ v₂ _ oJ C oC D m₂ h tk E' hi hG hV hoC ha hb F' N' off') (fun ok s' h' => ?_) fun _ _ e => e
    have fixE : ∀ {rest : Value → Led → Prop} {ys' : List Value}, (∀ y nw, rest y nw → (ax, ({ cls := .type "list", data := .seq its k } : Obj)) ∈ nw) → ∀ y s', PElt h₀ L m s s.heap.objs.size oJ s.heap.objs.size oJ C oC D ys' (fun _ => True) rest y s' → PElt h₀ L m { s with heap := h₁, toks := tk₁ } s.heap.objs.size oJ s.heap.objs.size oJ C oC D ys' (fun nw => (ax, ({ cls := .type "list", data := .seq its k } : Obj)) ∈ nw) rest y s' := by
      rintro rest ys' hr y s' ⟨h', tk, nw', rfl, F, N, off, _, r⟩
      exact ⟨h', tk, nw', rfl, F, N, off, hr _ _ r, r⟩
    cases ok with
    | true =>
      simp only [if_true] at h' ⊢
      exact wpAny_mono h' (fun y s' hy => fixE (fun y nw r => hGs _ _ _ r) y s' hy) fun _ _ e => e
    | false =>
      simp only [Bool.false_eq_true, if_false] at h' ⊢
      exact fixE (fun y nw r => hGs _ _ _ r) _ s' h'
  · have hs'' : Heap.SameBut C h h'' := hs''
    refine fin ys nw D h'' tk hG (F'.change hs'' zC.1 zC.2) (fun p hp => ⟨hs''.extBut _ _ ?_ (N' p hp).1, (N' p hp).2⟩) (fun p hp => (off' p hp).2.2.2)
    rcases List.mem_cons.mp hp with e | hp
    · rw [e]; exact Ne.symm hCD
    · exact (off' p hp).2.2.1
end
end Mine
end
section
open PySem PySem.W PyProof.Rows PySem.Calls PyProof.Rows.LCg
set_option maxHeartbeats 1000000
namespace Mine
section
variable {prog : Program} {w : World} {A : Around} {E : Value → Shared → Prop} {s : Shared} {env : Env} {h₀ : Heap} {L : Addr} {m : Loc}
variable {a b : Str} {pa pb tp : Pos} {kk : Nat} {scope : Scope} {cl : List (Str × Addr)} {Q : Value → Shared → Prop} {elt iter c : PySem.Expr} {pos : Pos} {G : Nat → List Value → Led → Prop} {nw : Led}
/-- enumerate over a list, without a test -/
theorem enum_comp {ax : Addr} {its : Array Value} {k n : Nat} (hh : A.handled = none) (F : Fr h₀ L s.heap m) (N : News h₀ L s.heap nw) (hm : (ax, ({ cls := .type "list", data := .seq its k } : Obj)) ∈ nw) (hn : its.size = n) (hsz : n ≤ sizeLine)
    (hcell : ∀ y ∈ scope.names, y.2 ≠ .cell) (hkind : scope.kind = .function) (hxa : scope.names.lookup a = some .local) (hxb : scope.names.lookup b = some .local) (hab : a ≠ b)
    (hlen : ∀ i ys nw, G i ys nw → ys.length ≤ i) (hGs : ∀ i ys nw, G i ys nw → (ax, ({ cls := .type "list", data := .seq its k } : Obj)) ∈ nw) (hG : G 0 [] nw)
    (hund1 : ∀ it acc C, A.under (Code.compStart (.ListComp elt [⟨.Tuple [.Name a pa, .Name b pb] kk tp, iter, [], 0⟩] scope pos) 0 it acc (compEnvC scope cl C env)) = A) (hund2 : ∀ it acc C, A.under (Code.compLoop (.ListComp elt [⟨.Tuple [.Name a pa, .Name b pb] kk tp, iter, [], 0⟩] scope pos) 0 it acc (compEnvC scope cl C env)) = A)
    (turn : ∀ i ys nw t v I oI J oJ C oC D m₂ h tk (E' : Value → Shared → Prop), i < n → G i ys nw → its[i]? = some v → NsObj oC m₂ → m₂ a = some (.int i t) → m₂ b = some v → Fr h₀ L h m → News h₀ L h ((I, oI) :: (J, oJ) :: (C, oC) :: (D, lst ys) :: nw) → Off4 I J C D nw →
      wpAny (model prog w) A (eval elt (compEnvC scope cl C env)) (PElt h₀ L m s I oI J oJ C oC D ys (fun _ => True) (fun y nw => G (i + 1) (ys ++ [y]) nw)) E' { s with heap := h, toks := tk })
    (fin : ∀ ys nw D h tk, G n ys nw → Fr h₀ L h m → News h₀ L h ((D, lst ys) :: nw) → (∀ p ∈ nw, p.1 ≠ D) → Q (.ref D) { s with heap := h, toks := tk }) :
    wpAny (model prog w) A (call (.type "enumerate") [.ref ax]) (PIter prog w A E (.ListComp elt [⟨.Tuple [.Name a pa, .Name b pb] kk tp, iter, [], 0⟩] scope pos) scope cl env Q) E s := by
  subst hn
  have hl : s.heap.IsList ax its := ⟨_, (N _ hm).1, rfl, k, rfl⟩
  have hlt : ax < s.heap.objs.size := Heap.lt_size (N _ hm).1
  refine call_enumerate_list hl fun h₂ hE hI hsz₂ up0 => ?_
  have F₂ := F.keeps up0
  have N₂ := N.grown up0
  refine wpAny_pyIter_enum hE ?_
  have n0 : ∀ a, s.heap.objs.size ≤ a → a ≠ L ∧ h₀.get? a = none ∧ ∀ p ∈ nw, p.1 ≠ a := fun a ha => by
    refine ⟨fun q => ?_, ?_, fun p hp q => ?_⟩
    · have := F.ns.lt; rw [← q] at this; exact absurd this (Nat.not_lt.mpr ha)
    · cases q : h₀.get? a with
      | none => rfl
      | some o => exact absurd (Heap.lt_size (F.keep _ _ q)) (Nat.not_lt.mpr ha)
    · have := Heap.lt_size (N p hp).1; rw [q] at this; exact absurd this (Nat.not_lt.mpr ha)
  have nI₀ := n0 (s.heap.objs.size + 1) (Nat.le_succ _)
  have nJ₀ := n0 s.heap.objs.size (Nat.le_refl _)
  refine comp_open hcell hkind fun h₁ tk₁ C D hCD up hD hC nC nD => ?_
  obtain ⟨mc, hC⟩ := hC
  obtain ⟨F₁, N₁, zC, zD, offCD⟩ := open_facts (s₂ := { s with heap := _ }) F₂ N₂ up hD nC nD
  have hE₁ := up _ _ hE
  obtain ⟨oi, hoi, hir⟩ := hI
  have hI₁ := up _ _ hoi
  have KT := (KTurns.ofWalksU (elts := [.Name a pa, .Name b pb]) (k := kk) (pos := tp) (WalksT.enumerate (prog := prog) (w := w) (A := A) hh (s.heap.objs.size + 1) s.heap.objs.size ax (Nat.succ_ne_self _) (Nat.ne_of_lt (Nat.lt_succ_of_lt hlt)) (Nat.ne_of_lt hlt) its).toU)
  refine comp_start (g := ⟨.Tuple [.Name a pa, .Name b pb] kk tp, iter, [], 0⟩) rfl rfl rfl (hund1 _ _ C) rfl ?_ (fun Q E hQ => wpAny_pyIter_enum hE₁.1 hQ)
  have offI : Off4 (s.heap.objs.size + 1) s.heap.objs.size C D nw := fun p hp => ⟨nI₀.2.2 p hp, nJ₀.2.2 p hp, offCD p hp⟩
  refine pair_loop (S := fun nw => (ax, ({ cls := .type "list", data := .seq its k } : Obj)) ∈ nw) (V := fun i v₁ v₂ => ∃ t, v₁ = .int i t ∧ its[i]? = some v₂) (G := G) (nw := nw) hh KT rfl rfl (hund2 _ _ C) (turn_emit _ _) hkind hxa hxb hab (fun i h st => ?_) (fun i h h' nw st e1 e2 kp N' hs => ⟨?_, ?_, ?_⟩) (fun i v h ys nw hi hP hG N' => ?_)
    ⟨hE₁.2.1, hE₁.2.2, nI₀.1, nI₀.2.1⟩ ⟨hI₁.2.1, hI₁.2.2, nJ₀.1, nJ₀.2.1⟩ ⟨hCD, zC⟩ zD F₁ N₁ offI ⟨⟨_, hE₁.1⟩, ⟨oi, hI₁.1, hir⟩, _, (up _ _ (up0 _ _ (N _ hm).1)).1, rfl, k, rfl⟩ hC hm hG (fun i ys nw v₁ v₂ oI oJ oC m₂ h tk E' hi hG hV hoC ha hb F' N' off' _ => ?_) (fun ys nw h tk m' hG F' N' off' hn => ⟨m', hn, fun h'' hs'' => ?_⟩)
  · obtain ⟨⟨old, e1⟩, ⟨o, e2, _⟩, _⟩ := st
    exact ⟨⟨_, e1⟩, ⟨o, e2⟩⟩
  · obtain ⟨⟨old, e⟩, _⟩ := st
    exact ⟨old, e1.trans e⟩
  · obtain ⟨_, ⟨o, e, r⟩, _⟩ := st
    exact ⟨o, e2.trans e, r⟩
  · exact ⟨_, (N' _ hs).1, rfl, k, rfl⟩
  · obtain ⟨T, vals, rfl, ⟨t, x, hx, rfl⟩, hTp⟩ := hP
    exact ⟨T, .int i t, x, rfl, hTp, t, rfl, hx⟩
  · obtain ⟨t, rfl, hx⟩ := hV
    refine emit_end (Nat.le_trans (hlen _ _ _ hG) (Nat.le_trans (Nat.le_of_lt hi) hsz)) ⟨zD.1, zD.2, hE₁.2.2, hI₁.2.2, hCD⟩ ?_
    refine wpAny_mono (turn i ys nw t v₂ _ oI _ oJ C oC D m₂ h tk E' hi hG hx hoC ha hb F' N' off') (fun y s' h' => ?_) fun _ _ e => e
    obtain ⟨h', tk, nw', rfl, F, N, off, _, r⟩ := h'
    exact ⟨h', tk, nw', rfl, F, N, off, hGs _ _ _ r, r⟩
  · have hs'' : Heap.SameBut C h h'' := hs''
    refine fin ys nw D h'' tk hG (F'.change hs'' zC.1 zC.2) (fun p hp => ⟨hs''.extBut _ _ ?_ (N' p hp).1, (N' p hp).2⟩) (fun p hp => (off' p hp).2.2.2)
    rcases List.mem_cons.mp hp with e | hp
    · rw [e]; exact Ne.symm hCD
    · exact (off' p hp).2.2.1
end
end Mine
end
section
open PySem PySem.W PyProof.Rows PySem.Calls PyProof.Rows.LCg
set_option maxHeartbeats 1000000
namespace Mine
/-- a begun text in the heap: its length, itself, the end it stands at -/
structure It where
  a : Addr
  n : Int
  tn : Tok
  x : Str
  tx : Tok
  k : Int
  tk : Tok
noncomputable abbrev itObj (p : It) : Obj := { cls := .type "tuple", data := .seq #[.int p.n p.tn, .str p.x p.tx, .int p.k p.tk] }
noncomputable def itRef (p : It) : Value := .ref p.a
noncomputable def itEnt (p : It) : Addr × Obj := (p.a, itObj p)
noncomputable def ltK (n : Int) (x : Str) (k : Int) (n' : Int) (x' : Str) (k' : Int) : Bool :=
  if n = n' then (if x = x' then decide (k < k') else decide (x.cps.toList < x'.cps.toList)) else decide (n < n')
noncomputable def ltI (p q : It) : Bool := ltK p.n p.x p.k q.n q.x q.k
section
variable {prog : Program} {w : World} {A : Around} {E : Value → Shared → Prop} {s : Shared}
theorem lt_tree (a b : Addr) : Builtin.«tuple.__lt__» ⟨[.ref a, .ref b], []⟩ = (do
    if !(← isInstance (.ref b) (.type "tuple")) then return ← ret .notImplemented
    let xs ← Builtin.Tuple.tupleItemsOf (.ref a)
    let ys ← Builtin.Tuple.tupleItemsOf (.ref b)
    for (x, y) in xs.toList.zip ys.toList do
      if !(← eqBool x y) then
        rule "tuple.compare.by-the-first-pair-that-differs"
        return ← ret (← richCompare .Lt x y)
    ret (.bool (decide (xs.size < ys.size)))) := by rfl
theorem items_of {a : Addr} {o : Obj} {xs : Array Value} {n : Nat} {Q : Array Value → Shared → Prop} (ho : s.heap.get? a = some o) (hd : o.data = .seq xs n) (h : Q xs s) : wpAny (model prog w) A (Builtin.Tuple.tupleItemsOf (.ref a)) Q E s := by
  unfold Builtin.Tuple.tupleItemsOf
  exact wpAny_bind (wpAny_seqItems ho hd (wpAny_pure h))
theorem lt_it {p q : It} {Q : Value → Shared → Prop} (hp : s.heap.get? p.a = some (itObj p)) (hq : s.heap.get? q.a = some (itObj q)) (hu : A.units < cLine) (h : Q (.bool (ltI p q)) s) : wpAny (model prog w) A (compareOp .Lt (.ref p.a) (.ref q.a)) Q E s := by
  show wpAny _ _ (richCompare .Lt _ _) Q E s
  refine wpAny_richCompare_same_room (T := "tuple") (op := .Lt) ⟨_, hp, rfl⟩ ⟨_, hq, rfl⟩ F.slot_tuple_lt ?_ hu
  refine wpAny_call_entry F.slot_tuple_lt ⟨_, hp, rfl⟩ F.entry_tuple_lt ?_ (F.args_tuple_lt_2 _ _)
  rw [lt_tree]
  refine wpAny_bind (wpAny_isInstance (T := "tuple") ⟨_, hq, rfl⟩ isSubtype_tuple_tuple ?_)
  simp only [Bool.not_true, Bool.false_eq_true, if_false]
  refine wpAny_bind (items_of hp rfl (wpAny_bind (items_of hq rfl ?_)))
  show wpAny _ _ (forIn [(Value.int p.n p.tn, Value.int q.n q.tn), (.str p.x p.tx, .str q.x q.tx), (.int p.k p.tk, .int q.k q.tk)] _ _ >>= _) _ _ _
  unfold ltI ltK at h
  refine wpAny_bind ?_
  rw [List.forIn_cons]
  refine wpAny_bind ?_
  dsimp only
  refine wpAny_bind (wpAny_eqBool_int ?_)
  by_cases e1 : p.n = q.n
  · rw [if_pos e1] at h
    rw [e1, beq_self_eq_true]
    simp only [Bool.not_true, Bool.false_eq_true, if_false]
    refine wpAny_pure ?_
    dsimp only
    rw [List.forIn_cons]
    refine wpAny_bind ?_
    dsimp only
    refine wpAny_bind (wpAny_eqBool_str ?_)
    by_cases e2 : p.x = q.x
    · rw [if_pos e2] at h
      rw [decide_eq_true e2]
      simp only [Bool.not_true, Bool.false_eq_true, if_false]
      refine wpAny_pure ?_
      dsimp only
      rw [List.forIn_cons]
      refine wpAny_bind ?_
      dsimp only
      refine wpAny_bind (wpAny_eqBool_int ?_)
      by_cases e3 : p.k = q.k
      · rw [e3, beq_self_eq_true]
        simp only [Bool.not_true, Bool.false_eq_true, if_false]
        refine wpAny_pure ?_
        dsimp only
        rw [List.forIn_nil]
        refine wpAny_pure ?_
        rw [e3, decide_eq_false (Int.lt_irrefl _)] at h
        exact wpAny_pure ⟨_, rfl, (fun e => nomatch e), h⟩
      · have e3' : (p.k == q.k) = false := by simp [e3]
        rw [e3']
        simp only [Bool.not_false, if_true]
        refine wpAny_bind (wpAny_rule (wpAny_bind (show wpAny _ _ (compareOp .Lt _ _) _ _ _ from lt_int ?_)))
        exact wpAny_bind (wpAny_pure (wpAny_pure (wpAny_pure (wpAny_pure ⟨_, rfl, (fun e => nomatch e), h⟩))))
    · rw [if_neg e2] at h
      rw [decide_eq_false e2]
      simp only [Bool.not_false, if_true]
      refine wpAny_bind (wpAny_rule (wpAny_bind (show wpAny _ _ (compareOp .Lt _ _) _ _ _ from lt_str ?_)))
      exact wpAny_bind (wpAny_pure (wpAny_pure (wpAny_pure (wpAny_pure ⟨_, rfl, (fun e => nomatch e), h⟩))))
  · rw [if_neg e1] at h
    have e1' : (p.n == q.n) = false := by simp [e1]
    rw [e1']
    simp only [Bool.not_false, if_true]
    refine wpAny_bind (wpAny_rule (wpAny_bind (show wpAny _ _ (compareOp .Lt _ _) _ _ _ from lt_int ?_)))
    exact wpAny_bind (wpAny_pure (wpAny_pure (wpAny_pure (wpAny_pure ⟨_, rfl, (fun e => nomatch e), h⟩))))
end
end Mine
end
section
open PySem PySem.W PyProof.Rows PySem.Calls PyProof.Rows.LCg
set_option maxHeartbeats 4000000
namespace Mine
/-- heapq's _siftdown from place pos up -/
noncomputable def sd {α : Type} (lt : α → α → Bool) (x : α) : Nat → List α → Nat → List α
  | 0, l, pos => l.set pos x
  | f + 1, l, pos => if pos = 0 then l.set pos x else match l[(pos - 1) / 2]? with
    | none => l.set pos x
    | some par => if lt x par = true then sd lt x f (l.set pos par) ((pos - 1) / 2) else l.set pos x
section
variable {prog : Program} {w : World} {A : Around} {E : Value → Shared → Prop} {s : Shared} {h₀ : Heap} {L D : Addr} {m : Str → Option Value} {news news' : List (Addr × Obj)} {vs : List Value} {n : Nat} {k : Int} {t u : Tok} {v : Value}
theorem set_led {Q : Unit → Shared → Prop} (F : Fr h₀ L s.heap m) (N : News h₀ L s.heap news) (U : Upd D (W.listOf vs.toArray n) (W.listOf (vs.set k.toNat v).toArray n) news news') (h0 : 0 ≤ k) (h1 : k < vs.length) (hfit : k < 2 ^ 63)
    (h : ∀ h', Fr h₀ L h' m → News h₀ L h' news' → Q () { s with heap := h' }) :
    wpAny (model prog w) A (setItem (.ref D) (.int k t) v) Q E s := by
  obtain ⟨pre, post, rfl, rfl, a, b⟩ := U.split
  have z := N (D, W.listOf vs.toArray n) (List.mem_append.mpr (.inr (.head _)))
  refine ki_setAt z.1 h0 hfit (by simpa using h1) (h _ (F.change (Heap.SameBut.update ..) z.2.1 z.2.2) (ki_turn _ N a b ?_ ?_))
  · show vs.toArray.setIfInBounds k.toNat v = (vs.set k.toNat v).toArray
    apply Array.toList_inj.mp
    simp
  · simp
theorem sub_led {value slice : PySem.Expr} {Q : Value → Shared → Prop} (N : News h₀ L s.heap news) (hm : (D, W.listOf vs.toArray n) ∈ news) (h0 : 0 ≤ k) (hfit : k < 2 ^ 63) (hx : vs[k.toNat]? = some v) (h : Q v s)
    (hs : subscripted slice false (.ref D) (.int k u) = operate [.ref D, .int k u] (getItem (.ref D) (.int k u)) := by with_unfolding_all rfl) :
    wpAny (model prog w) A (subscriptTail value slice (.ref D) (.int k u)) Q E s :=
  have hL : s.heap.IsList D vs.toArray := PySem.IsL.isList (n := n) (N _ hm).1
  tail_any hL.typeIs slot_list_getitem.lookup (wpAny_getItem_list hL h0 hfit (by simpa using hx) h) hs
end
local macro_rules | `(tactic| walk_at $s:str) => wk "S=exec While|setItem ref int;ST=subscriptTail;HV=nx_hv;NM=eval Name;D=WPost;T=compareOp Lt ref ref" s
theorem half (n : Nat) (h : 0 < n) : ((n : Int) - 1).fdiv (2 ^ Int.toNat 1) = (((n - 1) / 2 : Nat) : Int) := by
  have e : ((n : Int) - 1) = ((n - 1 : Nat) : Int) := by omega
  rw [e, show ((2 : Int) ^ Int.toNat 1) = 2 by rfl, Int.fdiv_eq_ediv_of_nonneg _ (by omega)]
  omega
theorem sd_zero {x : It} {l : List It} {f : Nat} : sd ltI x f l 0 = l.set 0 x := by
  cases f with
  | zero => rfl
  | succ f => simp [sd]
theorem sd_yes {x par : It} {l : List It} {n f : Nat} (h0 : 0 < n) (hp : l[(n - 1) / 2]? = some par) (hlt : ltI x par = true) : sd ltI x (f + 1) l n = sd ltI x f (l.set n par) ((n - 1) / 2) := by
  rw [sd, if_neg (by omega), hp]
  simp [hlt]
theorem sd_no {x par : It} {l : List It} {n f : Nat} (h0 : 0 < n) (hp : l[(n - 1) / 2]? = some par) (hlt : ltI x par = false) : sd ltI x (f + 1) l n = l.set n x := by
  rw [sd, if_neg (by omega), hp]
  simp [hlt]
inductive SdInv (g : Heap) (q : Addr) (c : Nat) (x : It) (t0 : Tok) (R : List It) (n : Nat) (m : Loc) (nw : Led) : Prop
  | out (l : List It) (t : Tok) (f : Nat) (z1 : m (Str.ofString "pos") = some (.int n t)) (z2 : m (Str.ofString "startpos") = some (.int 0 t0)) (z3 : m (Str.ofString "heap") = some (.ref q)) (z4 : m (Str.ofString "newitem") = some (.ref x.a)) (z5 : nw = [(q, W.listOf (l.map itRef).toArray c)]) (z6 : n < l.length) (z7 : l.length ≤ 1000) (z8 : (∀ p ∈ l, g.get? p.a = some (itObj p))) (z9 : n ≤ f) (z10 : sd ltI x f l n = R) : SdInv g q c x t0 R n m nw
section
variable {w : World} {mean : ExcName → Option Value} {mg mb : Str → Option Value} {base : Heap} {outer : List Env} {g : Heap} {gs : Array GenState} {dr : Drawn} {tk : Nat} {os : OsState} {Q E : Value → Shared → Prop}
theorem c_siftdown {q : Addr} {g₀ : Heap} {its : List It} {c : Nat} {pos : Nat} {x : It} {t0 t1 : Tok} (e₀ : hideAll g [q] = g₀) (C : Cx w mean mg mb 0 base outer g₀) (hq : g.get? q = some (W.listOf (its.map itRef).toArray c)) (hit : ∀ p ∈ its, g₀.get? p.a = some (itObj p)) (hx : its[pos]? = some x) (hl : its.length ≤ 1000)
   (ret : ∀ h' tk', Keeps g₀ h' → h'.get? q = some (W.listOf ((sd ltI x pos its pos).map itRef).toArray c) → Q .none ⟨h', gs, dr, tk', os⟩) :
   wpAny (model Challenge.rw_ny0273_01.row.prog w) (AA 0 outer) (call (.ref 196) [.ref q, .int 0 t0, .int pos t1]) Q E ⟨g, gs, dr, tk, os⟩ := by
  have X := C.X; revert X; k_fill; intro X
  have hpl : pos < its.length := by
    rcases Nat.lt_or_ge pos its.length with h | h
    · exact h
    · rw [List.getElem?_eq_none h] at hx; cases hx
  have hxo := hit x (List.mem_of_getElem? hx)
  refine wpAny_call ?_
  refine' enter [(Str.ofString "pos", .int pos t1), (Str.ofString "startpos", .int 0 t0), (Str.ofString "heap", .ref q)] [(q, W.listOf (its.map itRef).toArray c)] (by subst e₀; exact C) (fun p hp => by rw [List.mem_singleton.mp hp]; exact hq) ?ho ?hcd ?hb ?hl ?c1 ?c2 ?c3 ?c4 ?_
  k_dflt ((case ho => k_is); (case hcd => k_is); (case hb => exact BindsTo.of_eq rfl); (case c4 => decide); (case hl => exact locs rfl); (case c1 => exact rfl); (case c2 => exact rfl); (case c3 => exact rfl); k_whole)
  intro g' L h1 tk1 eg F1 N1 B1 X1 T1
  obtain rfl : g' = g₀ := eg.trans e₀
  (try dsimp only)
  (try k_fold)
  k_steps
  unfold NxStop
  refine sub_led N1 List.mem_cons_self (by omega) (by omega) (v := .ref x.a) (by simp [hx, itRef]) ?_
  k_steps
  unfold NxStop
  rename Fr _ _ _ _ => F2
  rename News _ _ _ _ => N2
  refine while_ind (SdInv g' q c x t0 (sd ltI x pos its pos)) ?turn (n := pos) ⟨its, t1, pos, rfl, rfl, rfl, rfl, rfl, hpl, hl, hit, Nat.le_refl _, rfl⟩ F2 N2
  rintro n m nw h3 tk3 ⟨l, t, f, m1, m2, m3, m4, rfl, hnl, hll, hit3, hnf, hR⟩ F3 N3
  have done : ∀ (h4 : Heap) (tk4 : Nat) (m4' : Loc), Fr g' L h4 m4' → News g' L h4 [(q, W.listOf ((l.map itRef).set n (.ref x.a)).toArray c)] → sd ltI x f l n = l.set n x → Q .none ⟨h4, gs, dr, tk4, os⟩ := fun h4 tk4 m4' F4 N4 e => by
    refine ret h4 tk4 F4.keep ?_
    rw [← hR, e, List.map_set]
    exact (N4 _ List.mem_cons_self).1
  have up : ∀ (k : Nat) (v : Value), Upd q (W.listOf (l.map itRef).toArray c) (W.listOf ((l.map itRef).set k v).toArray c) [(q, W.listOf (l.map itRef).toArray c)] [(q, W.listOf ((l.map itRef).set k v).toArray c)] := fun k v => .head (fun _ h => nomatch h)
  k_steps
  · rename (0 : Int) < _ => hn0
    have hn1 : 0 < n := by omega
    unfold NxStop
    rename Fr _ _ _ _ => F4
    rename News _ _ _ _ => N4
    obtain ⟨par, hpar⟩ : ∃ par, l[(n - 1) / 2]? = some par := ⟨l[(n - 1) / 2]'(by omega), List.getElem?_eq_getElem _⟩
    rw [half n hn1]
    refine sub_led N4 List.mem_cons_self (by omega) (by omega) (v := .ref par.a) (by rw [Int.toNat_natCast, List.getElem?_map, hpar]; rfl) ?_
    k_steps
    unfold NxStop
    rename Fr _ _ _ _ => F5
    rename News _ _ _ _ => N5
    refine lt_it (F5.keep _ _ hxo) (F5.keep _ _ (hit3 par (List.mem_of_getElem? hpar))) (Nat.le_of_ble_eq_true rfl) ?_
    obtain ⟨f', rfl⟩ : ∃ f', f = f' + 1 := ⟨f - 1, by omega⟩
    k_steps
    · unfold NxStop
      rename ltI x par = true => hlt
      refine set_led F5 N5 (up _ _) (by omega) (by simp; omega) (by omega) fun h6 F6 N6 => ?_
      k_steps
      rename Fr _ _ _ _ => F7
      rename News _ _ _ _ => N7
      rw [half n hn1] at F7
      refine' WEnd.intro F7 N7 (k := (n - 1) / 2) (by omega) ⟨l.set n par, _, f', if_pos rfl, ?_, ?_, ?_, ?_, ?_, ?_, ?_, ?_, ?_⟩
      · walk_at "nx_hv"
      · walk_at "nx_hv"
      · walk_at "nx_hv"
      · rw [List.map_set]; rfl
      · rw [List.length_set]; omega
      · rw [List.length_set]; exact hll
      · intro p hp
        rcases List.mem_or_eq_of_mem_set hp with e | e
        · exact hit3 p e
        · rw [e]; exact hit3 par (List.mem_of_getElem? hpar)
      · omega
      · rw [← hR, sd_yes hn1 hpar hlt]
    · unfold NxStop
      rename ltI x par = false => hlt
      refine set_led F5 N5 (up _ _) (by omega) (by simp; omega) (by omega) fun h6 F6 N6 => ?_
      k_steps
      exact done _ _ _ F6 N6 (sd_no hn1 hpar hlt)
  · unfold NxStop
    rename ¬ (0 : Int) < _ => hn0
    have hn1 : n = 0 := by omega
    subst hn1
    refine set_led F3 N3 (up _ _) (by omega) (by simp; omega) (by omega) fun h4 F4 N4 => ?_
    k_steps
    exact done _ _ _ F4 N4 sd_zero
end
end Mine
end
section
open PySem PySem.W PyProof.Rows
theorem Mine.anew2 {M : Model} {A : Around} {env : Env} {Q : Flow → Shared → Prop} {E : Value → Shared → Prop} {s : Shared} (h : wpAny M A (execs [] env) Q E s) : wpAny M A (execs [] env) Q E s := by first | (walk1; done) | exact h
end
section
open PySem PySem.W PyProof.Rows PySem.Calls
set_option maxHeartbeats 1000000
namespace Mine
section
variable {w : World} {mean : ExcName → Option Value} {mg mb : Str → Option Value} {base : Heap} {outer : List Env} {g h h' : Heap} {L : Addr} {m : Str → Option Value} {news : List (Addr × Obj)} {env : Env} {r : Nat}
/-- the surroundings of a call out of a frame of rank r + 1 -/
theorem cx_call (B : Below (AA (r + 1) outer) base outer g) (X : (Mine.hd.heap_1 w.params).In g) (T : TopH mean mg mb g) (F : Fr g L h m) (N : News g L h news) (hf : env.frame = some L) (hke : env.scope.kind = .function) :
    Cx w mean mg mb r base (env :: outer) (hideAll h (news.map (·.1))) := by
  obtain ⟨_, b, st, _⟩ := groundX (A := AA r (env :: outer)) (R := fun _ _ => True) (s := { heap := h }) B F N rfl hf hke
  exact ⟨b, X.keeps st, T.keeps st⟩
theorem cx_call0 (B : Below (AA (r + 1) outer) base outer g) (X : (Mine.hd.heap_1 w.params).In g) (T : TopH mean mg mb g) (F : Fr g L h m) (hf : env.frame = some L) (hke : env.scope.kind = .function) :
    Cx w mean mg mb r base (env :: outer) h := cx_call (news := []) B X T F (fun _ h => nomatch h) hf hke
theorem stays_hide (F : Fr g L h m) (N : News g L h news) : Keeps g (hideAll h (news.map (·.1))) := fun b o e => hideAll_get _ (F.keep b o e) fun hm => by
  obtain ⟨p, hp, rfl⟩ := List.mem_map.mp hm
  rw [(N p hp).2.2] at e; cases e
theorem fr_after {q : Addr} {o : Obj} (F : Fr g L h m) (N : News g L h [(q, o)]) (k : Keeps (hideAll h [q]) h') : Fr g L h' m := by
  have z := N _ List.mem_cons_self
  refine ⟨F.ns.at' fun o' e => k _ _ (hideAll_get _ e (by simpa using Ne.symm z.2.1)), fun b o' e => k _ _ (hideAll_get _ (F.keep b o' e) fun hm => ?_), F.above⟩
  rw [List.mem_singleton.mp hm, z.2.2] at e; cases e
theorem news_after {q : Addr} {o o' : Obj} {rest : List (Addr × Obj)} (N : News g L h ((q, o) :: rest)) (off : ∀ p ∈ rest, p.1 ≠ q) (k : Keeps (hideAll h [q]) h') (hq : h'.get? q = some o') : News g L h' ((q, o') :: rest) := fun p hp => by
  rcases List.mem_cons.mp hp with rfl | hp
  · exact ⟨hq, (N _ List.mem_cons_self).2⟩
  · have z := N p (List.mem_cons_of_mem _ hp)
    exact ⟨k _ _ (hideAll_get _ z.1 (by simpa using off p hp)), z.2⟩
/-- into a call out of a frame of rank r + 1 -/
theorem wp_call {α : Type} {M : Model} {t : Sem α} {Q : α → Shared → Prop} {E : Value → Shared → Prop} {s : Shared} (hr : r ≤ 7) (h : wpAny M (AA r (env :: outer)) t Q E s) : wpAny M ((AA (r + 1) outer).deeper env) t Q E s :=
  wp_weaken (900 - 100 * r) (9000 - 1000 * r) h (by show 900 - 100 * (r + 1) + 1 ≤ _; omega) (by show 9000 - 1000 * (r + 1) + 3 ≤ _; omega)
end
end Mine
end
section
open PySem PySem.W PyProof.Rows PySem.Calls PyProof.Rows.LCg
set_option maxHeartbeats 4000000
namespace Mine
/-- heapq's _siftup from place pos down, and up again -/
noncomputable def su {α : Type} (lt : α → α → Bool) (x : α) : Nat → List α → Nat → List α
  | 0, l, pos => sd lt x pos (l.set pos x) pos
  | f + 1, l, pos => match l[2 * pos + 1]? with
    | none => sd lt x pos (l.set pos x) pos
    | some c1 => match l[2 * pos + 2]? with
      | none => su lt x f (l.set pos c1) (2 * pos + 1)
      | some c2 => if lt c1 c2 = true then su lt x f (l.set pos c1) (2 * pos + 1) else su lt x f (l.set pos c2) (2 * pos + 2)
local macro_rules | `(tactic| walk_at $s:str) => wk "S=exec While|setItem ref int;ST=subscriptTail;HV=nx_hv;NM=eval Name;D=WPost;T=compareOp Lt ref ref" s

theorem len_led {prog : Program} {w : World} {A : Around} {E : Value → Shared → Prop} {s : Shared} {h₀ : Heap} {L D : Addr} {news : List (Addr × Obj)} {its : List It} {n : Nat} {Q : Value → Shared → Prop} (N : News h₀ L s.heap news) (hm : (D, W.listOf (its.map itRef).toArray n) ∈ news) (hz : its.length ≤ 1000)
    (h : ∀ t tk, Q (.int its.length t) { s with toks := tk }) : wpAny (model prog w) A (call (.builtin "len") [.ref D]) Q E s := by
  refine len_list (PySem.IsL.isList (n := n) (N _ hm).1) (by simp; omega) ?_
  rw [show ((its.map itRef).toArray.size : Int) = its.length by simp]
  exact h _ _
local macro_rules | `(tactic| walk_at $s:str) => wk "S=call ref" s
local macro_rules | `(tactic| walk_at "call builtin:len") => `(tactic| (k_here; refine len_led (by k_asm) List.mem_cons_self (by assumption) ?_; intro t' tk'))
inductive SuInv (g : Heap) (q : Addr) (c N : Nat) (x : It) (R : List It) (n : Nat) (m : Loc) (nw : Led) : Prop
  | out (l : List It) (pos : Nat) (t u v t0 : Tok) (z1 : m (Str.ofString "pos") = some (.int pos t)) (z2 : m (Str.ofString "childpos") = some (.int (2 * (pos : Int) + 1) u)) (z3 : m (Str.ofString "endpos") = some (.int N v)) (z4 : m (Str.ofString "startpos") = some (.int 0 t0)) (z5 : m (Str.ofString "heap") = some (.ref q)) (z6 : m (Str.ofString "newitem") = some (.ref x.a)) (z7 : nw = [(q, W.listOf (l.map itRef).toArray c)]) (z8 : pos < l.length) (z9 : l.length = N) (z10 : N ≤ 1000) (z11 : n = N - pos) (z12 : (∀ p ∈ l, g.get? p.a = some (itObj p))) (z13 : ∃ f, N - pos ≤ f ∧ su ltI x f l pos = R) : SuInv g q c N x R n m nw
section
variable {w : World} {mean : ExcName → Option Value} {mg mb : Str → Option Value} {base : Heap} {outer : List Env} {g : Heap} {gs : Array GenState} {dr : Drawn} {tk : Nat} {os : OsState} {Q E : Value → Shared → Prop}
theorem c_siftup {q : Addr} {g₀ : Heap} {its : List It} {c : Nat} {x : It} {t0 : Tok} (e₀ : hideAll g [q] = g₀) (C : Cx w mean mg mb 1 base outer g₀) (hq : g.get? q = some (W.listOf (its.map itRef).toArray c)) (hit : ∀ p ∈ its, g₀.get? p.a = some (itObj p)) (hx : its[0]? = some x) (hl : its.length ≤ 1000)
   (ret : ∀ h' tk', Keeps g₀ h' → h'.get? q = some (W.listOf ((su ltI x its.length its 0).map itRef).toArray c) → Q .none ⟨h', gs, dr, tk', os⟩) :
   wpAny (model Challenge.rw_ny0273_01.row.prog w) (AA 1 outer) (call (.ref 203) [.ref q, .int 0 t0]) Q E ⟨g, gs, dr, tk, os⟩ := by
  have X := C.X; revert X; k_fill; intro X
  have hpl : 0 < its.length := by
    rcases Nat.lt_or_ge 0 its.length with h | h
    · exact h
    · rw [List.getElem?_eq_none h] at hx; cases hx
  have hxo := hit x (List.mem_of_getElem? hx)
  refine wpAny_call ?_
  refine' enter [(Str.ofString "pos", .int 0 t0), (Str.ofString "heap", .ref q)] [(q, W.listOf (its.map itRef).toArray c)] (by subst e₀; exact C) (fun p hp => by rw [List.mem_singleton.mp hp]; exact hq) ?ho ?hcd ?hb ?hl ?c1 ?c2 ?c3 ?c4 ?_
  k_dflt ((case ho => k_is); (case hcd => k_is); (case hb => exact BindsTo.of_eq rfl); (case c4 => decide); (case hl => exact locs rfl); (case c1 => exact rfl); (case c2 => exact rfl); (case c3 => exact rfl); k_whole)
  intro g' L h1 tk1 eg F1 N1 B1 X1 T1
  obtain rfl : g' = g₀ := eg.trans e₀
  (try dsimp only)
  (try k_fold)
  k_steps
  unfold NxStop
  rename News _ _ _ _ => N1
  refine sub_led N1 List.mem_cons_self (by omega) (by omega) (v := .ref x.a) (by simp [hx, itRef]) ?_
  k_steps
  unfold NxStop
  rename Fr _ _ _ _ => F2
  rename News _ _ _ _ => N2
  refine while_ind (SuInv g' q c its.length x (su ltI x its.length its 0)) ?turn (n := its.length) ⟨its, 0, _, _, _, _, rfl, rfl, rfl, rfl, rfl, rfl, rfl, hpl, rfl, hl, rfl, hit, its.length, Nat.le_refl _, rfl⟩ F2 N2
  rintro n m nw h3 tk3 ⟨l, pos, t, u, v, t0', m1, m2, m3, m4, m5, m6, rfl, hnl, hll, hlm, rfl, hit3, f, hf, hR⟩ F3 N3
  have up : ∀ (k : Nat) (v : Value), Upd q (W.listOf (l.map itRef).toArray c) (W.listOf ((l.map itRef).set k v).toArray c) [(q, W.listOf (l.map itRef).toArray c)] [(q, W.listOf ((l.map itRef).set k v).toArray c)] := fun k v => .head (fun _ h => nomatch h)
  k_steps
  · rename 2 * (pos : Int) + 1 + 1 < _ => hr2
    obtain ⟨c1, hc1⟩ : ∃ c1, l[2 * pos + 1]? = some c1 := ⟨l[2 * pos + 1]'(by omega), List.getElem?_eq_getElem _⟩
    obtain ⟨c2, hc2⟩ : ∃ c2, l[2 * pos + 2]? = some c2 := ⟨l[2 * pos + 2]'(by omega), List.getElem?_eq_getElem _⟩
    obtain ⟨f', rfl⟩ : ∃ f', f = f' + 1 := ⟨f - 1, by omega⟩
    have i1 : (l.map itRef)[(2 * (pos : Int) + 1).toNat]? = some (.ref c1.a) := by rw [show (2 * (pos : Int) + 1).toNat = 2 * pos + 1 by omega, List.getElem?_map, hc1]; rfl
    have i2 : (l.map itRef)[(2 * (pos : Int) + 1 + 1).toNat]? = some (.ref c2.a) := by rw [show (2 * (pos : Int) + 1 + 1).toNat = 2 * pos + 2 by omega, List.getElem?_map, hc2]; rfl
    unfold NxStop
    rename News _ _ _ _ => N4
    refine sub_led N4 List.mem_cons_self (by omega) (by omega) i1 ?_
    k_steps
    unfold NxStop
    rename News _ _ _ _ => N4
    refine sub_led N4 List.mem_cons_self (by omega) (by omega) i2 ?_
    k_steps
    unfold NxStop
    rename Fr _ _ _ _ => F5
    refine lt_it (F5.keep _ _ (hit3 c1 (List.mem_of_getElem? hc1))) (F5.keep _ _ (hit3 c2 (List.mem_of_getElem? hc2))) (Nat.le_of_ble_eq_true rfl) ?_
    k_steps
    · rename ltI c1 c2 = true => hlt
      unfold NxStop
      rename News _ _ _ _ => N4
      refine sub_led N4 List.mem_cons_self (by omega) (by omega) i1 ?_
      k_steps
      unfold NxStop
      rename Fr _ _ _ _ => F5
      rename News _ _ _ _ => N5
      refine set_led F5 N5 (up _ _) (by omega) (by simp; omega) (by omega) fun h6 F6 N6 => ?_
      k_steps
      rename Fr _ _ _ _ => F7
      rename News _ _ _ _ => N7
      refine' WEnd.intro F7 N7 (k := its.length - (2 * pos + 1)) (by omega) ⟨l.set pos c1, 2 * pos + 1, _, _, v, t0', Eq.trans ?p1 (congrArg (fun z => some (Value.int z _)) (show (_ : Int) = ((2 * pos + 1 : Nat) : Int) from ?p2)), Eq.trans ?p3 (congrArg (fun z => some (Value.int z _)) (show (_ : Int) = 2 * ((2 * pos + 1 : Nat) : Int) + 1 from ?p4)), ?p5, ?p6, ?p7, ?p8, ?p9, ?q1, ?q2, hlm, rfl, ?q3, f', ?q4, ?q5⟩
      (case p1 => walk_at "nx_hv")
      (case p3 => walk_at "nx_hv")
      (case p2 => omega)
      (case p4 => omega)
      (case p5 => walk_at "nx_hv")
      (case p6 => walk_at "nx_hv")
      (case p7 => walk_at "nx_hv")
      (case p8 => walk_at "nx_hv")
      (case p9 => rw [List.map_set]; rfl)
      (case q1 => rw [List.length_set]; omega)
      (case q2 => rw [List.length_set]; exact hll)
      (case q3 =>
        intro p hp
        rcases List.mem_or_eq_of_mem_set hp with e | e
        · exact hit3 p e
        · rw [e]; exact hit3 _ (List.mem_of_getElem? hc1))
      (case q4 => omega)
      (case q5 => rw [← hR, su, hc1, hc2]; simp [hlt])
    · rename ltI c1 c2 = false => hlt
      unfold NxStop
      rename News _ _ _ _ => N4
      refine sub_led N4 List.mem_cons_self (by omega) (by omega) i2 ?_
      k_steps
      unfold NxStop
      rename Fr _ _ _ _ => F5
      rename News _ _ _ _ => N5
      refine set_led F5 N5 (up _ _) (by omega) (by simp; omega) (by omega) fun h6 F6 N6 => ?_
      k_steps
      rename Fr _ _ _ _ => F7
      rename News _ _ _ _ => N7
      refine' WEnd.intro F7 N7 (k := its.length - (2 * pos + 2)) (by omega) ⟨l.set pos c2, 2 * pos + 2, _, _, v, t0', Eq.trans ?p1 (congrArg (fun z => some (Value.int z _)) (show (_ : Int) = ((2 * pos + 2 : Nat) : Int) from ?p2)), Eq.trans ?p3 (congrArg (fun z => some (Value.int z _)) (show (_ : Int) = 2 * ((2 * pos + 2 : Nat) : Int) + 1 from ?p4)), ?p5, ?p6, ?p7, ?p8, ?p9, ?q1, ?q2, hlm, rfl, ?q3, f', ?q4, ?q5⟩
      (case p1 => walk_at "nx_hv")
      (case p3 => walk_at "nx_hv")
      (case p2 => omega)
      (case p4 => omega)
      (case p5 => walk_at "nx_hv")
      (case p6 => walk_at "nx_hv")
      (case p7 => walk_at "nx_hv")
      (case p8 => walk_at "nx_hv")
      (case p9 => rw [List.map_set]; rfl)
      (case q1 => rw [List.length_set]; omega)
      (case q2 => rw [List.length_set]; exact hll)
      (case q3 =>
        intro p hp
        rcases List.mem_or_eq_of_mem_set hp with e | e
        · exact hit3 p e
        · rw [e]; exact hit3 _ (List.mem_of_getElem? hc2))
      (case q4 => omega)
      (case q5 => rw [← hR, su, hc1, hc2]; simp [hlt])
  · rename ¬ 2 * (pos : Int) + 1 + 1 < _ => hr2
    rename 2 * (pos : Int) + 1 < _ => hr1
    obtain ⟨c1, hc1⟩ : ∃ c1, l[2 * pos + 1]? = some c1 := ⟨l[2 * pos + 1]'(by omega), List.getElem?_eq_getElem _⟩
    have hc2 : l[2 * pos + 2]? = none := List.getElem?_eq_none (by omega)
    obtain ⟨f', rfl⟩ : ∃ f', f = f' + 1 := ⟨f - 1, by omega⟩
    have i1 : (l.map itRef)[(2 * (pos : Int) + 1).toNat]? = some (.ref c1.a) := by rw [show (2 * (pos : Int) + 1).toNat = 2 * pos + 1 by omega, List.getElem?_map, hc1]; rfl
    unfold NxStop
    rename News _ _ _ _ => N4
    refine sub_led N4 List.mem_cons_self (by omega) (by omega) i1 ?_
    k_steps
    · unfold NxStop
      rename Fr _ _ _ _ => F5
      rename News _ _ _ _ => N5
      refine set_led F5 N5 (up _ _) (by omega) (by simp; omega) (by omega) fun h6 F6 N6 => ?_
      k_steps
      rename Fr _ _ _ _ => F7
      rename News _ _ _ _ => N7
      refine' WEnd.intro F7 N7 (k := its.length - (2 * pos + 1)) (by omega) ⟨l.set pos c1, 2 * pos + 1, _, _, v, t0', Eq.trans ?p1 (congrArg (fun z => some (Value.int z _)) (show (_ : Int) = ((2 * pos + 1 : Nat) : Int) from ?p2)), Eq.trans ?p3 (congrArg (fun z => some (Value.int z _)) (show (_ : Int) = 2 * ((2 * pos + 1 : Nat) : Int) + 1 from ?p4)), ?p5, ?p6, ?p7, ?p8, ?p9, ?q1, ?q2, hlm, rfl, ?q3, f', ?q4, ?q5⟩
      (case p1 => walk_at "nx_hv")
      (case p3 => walk_at "nx_hv")
      (case p2 => omega)
      (case p4 => omega)
      (case p5 => walk_at "nx_hv")
      (case p6 => walk_at "nx_hv")
      (case p7 => walk_at "nx_hv")
      (case p8 => walk_at "nx_hv")
      (case p9 => rw [List.map_set]; rfl)
      (case q1 => rw [List.length_set]; omega)
      (case q2 => rw [List.length_set]; exact hll)
      (case q3 =>
        intro p hp
        rcases List.mem_or_eq_of_mem_set hp with e | e
        · exact hit3 p e
        · rw [e]; exact hit3 _ (List.mem_of_getElem? hc1))
      (case q4 => omega)
      (case q5 => rw [← hR, su, hc1, hc2])
  · unfold NxStop
    rename ¬ 2 * (pos : Int) + 1 < _ => hr1
    have hc1 : l[2 * pos + 1]? = none := List.getElem?_eq_none (by omega)
    have hS : su ltI x f l pos = sd ltI x pos (l.set pos x) pos := by
      cases f with
      | zero => rfl
      | succ f => rw [su, hc1]
    refine set_led F3 N3 (up _ _) (by omega) (by simp; omega) (by omega) fun h4 F4 N4 => ?_
    k_steps
    unfold NxStop
    have e4 : (l.map itRef).set (pos : Int).toNat (.ref x.a) = (l.set pos x).map itRef := by rw [List.map_set]; rfl
    rw [e4] at N4
    refine wp_call (by omega) ?_
    refine c_siftdown (q := q) (its := l.set pos x) (c := c) (x := x) rfl (cx_call B1 X1 T1 F4 N4 rfl rfl) (N4 _ List.mem_cons_self).1 (fun p hp => stays_hide F4 N4 _ _ ?_) (by simp [hnl]) (by rw [List.length_set]; omega) fun h5 tk5 k5 hq5 => ?_
    · rcases List.mem_or_eq_of_mem_set hp with e | e
      · exact hit3 p e
      · rw [e]; exact hxo
    · k_steps
      refine ret _ _ (fr_after F4 N4 k5).keep ?_
      rw [← hR, hS]; exact hq5
end
end Mine
end
section
open PySem PySem.W PyProof.Rows
theorem Mine.anew3 {M : Model} {A : Around} {env : Env} {Q : Flow → Shared → Prop} {E : Value → Shared → Prop} {s : Shared} (h : wpAny M A (execs [] env) Q E s) : wpAny M A (execs [] env) Q E s := by first | (walk1; done) | exact h
end
section
open PySem PySem.W PyProof.Rows PySem.Calls PyProof.Rows.LCg
set_option maxHeartbeats 4000000
namespace Mine
local macro_rules | `(tactic| walk_at $s:str) => wk "S=exec While|setItem ref int;ST=subscriptTail;HV=nx_hv;NM=eval Name;D=WPost;T=compareOp Lt ref ref" s

local macro_rules | `(tactic| walk_at $s:str) => wk "S=call ref" s
local macro_rules | `(tactic| walk_at "call builtin:len") => `(tactic| (k_here; refine len_led (by k_asm) List.mem_cons_self (by assumption) ?_; intro t' tk'))

local macro_rules | `(tactic| walk_at $s:str) => wk "S=call builtin:len|call builtin:list.pop|truthy ref" s
/-- heapq's heappop -/
noncomputable def hpop {α : Type} (lt : α → α → Bool) (l : List α) : Option (α × List α) := match l.dropLast, l.getLast? with
  | [], some y => some (y, [])
  | r0 :: r, some y => some (r0, su lt y (r.length + 1) (y :: r) 0)
  | _, none => none
noncomputable def hpush {α : Type} (lt : α → α → Bool) (l : List α) (x : α) : List α := sd lt x l.length (l ++ [x]) l.length
section
variable {w : World} {mean : ExcName → Option Value} {mg mb : Str → Option Value} {base : Heap} {outer : List Env} {g : Heap} {gs : Array GenState} {dr : Drawn} {tk : Nat} {os : OsState} {Q E : Value → Shared → Prop}
theorem c_push {q : Addr} {g₀ : Heap} {its : List It} {c : Nat} {x : It} (e₀ : hideAll g [q] = g₀) (C : Cx w mean mg mb 1 base outer g₀) (hq : g.get? q = some (W.listOf (its.map itRef).toArray c)) (hit : ∀ p ∈ its, g₀.get? p.a = some (itObj p)) (hx : g₀.get? x.a = some (itObj x)) (hl : its.length ≤ 900)
   (ret : ∀ h' tk', Keeps g₀ h' → h'.get? q = some (W.listOf ((hpush ltI its x).map itRef).toArray (c + 1)) → Q .none ⟨h', gs, dr, tk', os⟩) :
   wpAny (model Challenge.rw_ny0273_01.row.prog w) (AA 1 outer) (call (.ref 182) [.ref q, .ref x.a]) Q E ⟨g, gs, dr, tk, os⟩ := by
  have X := C.X; revert X; k_fill; intro X
  refine wpAny_call ?_
  refine' enter [(Str.ofString "item", .ref x.a), (Str.ofString "heap", .ref q)] [(q, W.listOf (its.map itRef).toArray c)] (by subst e₀; exact C) (fun p hp => by rw [List.mem_singleton.mp hp]; exact hq) ?ho ?hcd ?hb ?hl ?c1 ?c2 ?c3 ?c4 ?_
  k_dflt ((case ho => k_is); (case hcd => k_is); (case hb => exact BindsTo.of_eq rfl); (case c4 => decide); (case hl => exact locs rfl); (case c1 => exact rfl); (case c2 => exact rfl); (case c3 => exact rfl); k_whole)
  intro g' L h1 tk1 eg F1 N1 B1 X1 T1
  obtain rfl : g' = g₀ := eg.trans e₀
  (try dsimp only)
  (try k_fold)
  k_steps
  unfold NxStop
  rename Fr _ _ _ _ => F2
  rename News _ _ _ _ => N2
  have e2 : (its.map itRef).toArray.push (.ref x.a) = ((its ++ [x]).map itRef).toArray := by simp [itRef]
  rw [e2] at N2
  refine len_led N2 List.mem_cons_self (by rw [List.length_append, List.length_singleton]; omega) fun t' tk' => ?_
  k_steps
  unfold NxStop
  rw [show (((its ++ [x]).length : Nat) : Int) - 1 = (its.length : Int) by rw [List.length_append, List.length_singleton]; omega]
  refine wp_call (by omega) ?_
  refine c_siftdown (q := q) (its := its ++ [x]) (c := c + 1) (x := x) rfl (cx_call B1 X1 T1 F2 N2 rfl rfl) (N2 _ List.mem_cons_self).1 (fun p hp => stays_hide F2 N2 _ _ ?_) (by simp) (by rw [List.length_append, List.length_singleton]; omega) fun h5 tk5 k5 hq5 => ?_
  · rcases List.mem_append.mp hp with e | e
    · exact hit p e
    · rw [List.mem_singleton.mp e]; exact hx
  · k_steps
    exact ret _ _ (fr_after F2 N2 k5).keep hq5
theorem c_pop {q : Addr} {g₀ : Heap} {its rest : List It} {c : Nat} {x : It} (e₀ : hideAll g [q] = g₀) (C : Cx w mean mg mb 2 base outer g₀) (hq : g.get? q = some (W.listOf (its.map itRef).toArray c)) (hit : ∀ p ∈ its, g₀.get? p.a = some (itObj p)) (hx : hpop ltI its = some (x, rest)) (hl : its.length ≤ 900)
   (ret : ∀ c' h' tk', Keeps g₀ h' → h'.get? q = some (W.listOf (rest.map itRef).toArray c') → Q (.ref x.a) ⟨h', gs, dr, tk', os⟩) :
   wpAny (model Challenge.rw_ny0273_01.row.prog w) (AA 2 outer) (call (.ref 189) [.ref q]) Q E ⟨g, gs, dr, tk, os⟩ := by
  have X := C.X; revert X; k_fill; intro X
  refine wpAny_call ?_
  refine' enter [(Str.ofString "heap", .ref q)] [(q, W.listOf (its.map itRef).toArray c)] (by subst e₀; exact C) (fun p hp => by rw [List.mem_singleton.mp hp]; exact hq) ?ho ?hcd ?hb ?hl ?c1 ?c2 ?c3 ?c4 ?_
  k_dflt ((case ho => k_is); (case hcd => k_is); (case hb => exact BindsTo.of_eq rfl); (case c4 => decide); (case hl => exact locs rfl); (case c1 => exact rfl); (case c2 => exact rfl); (case c3 => exact rfl); k_whole)
  intro g' L h1 tk1 eg F1 N1 B1 X1 T1
  obtain rfl : g' = g₀ := eg.trans e₀
  obtain ⟨p, y, rfl⟩ : ∃ p y, its = p ++ [y] := by
    rcases List.eq_nil_or_concat its with e | ⟨p, y, e⟩
    · subst e; cases hx
    · exact ⟨p, y, by rw [e, List.concat_eq_append]⟩
  rw [List.map_append] at hq N1
  (try dsimp only)
  (try k_fold)
  k_steps
  unfold NxStop
  refine kl_pop F1 N1 (p := p.map itRef) (y := .ref y.a) (by exact kpa_last _ _) (.head (fun _ h => nomatch h)) (by simp [sizeLine_eq] at hl ⊢; omega) fun h2 F2 N2 => ?_
  k_steps
  unfold NxStop
  rename Fr _ _ _ _ => F3
  rename News _ _ _ _ => N3
  refine wpAny_truthy_list (PySem.IsL.isList (N3 _ List.mem_cons_self).1) (by simp at hl ⊢; omega) ?_
  have hgl : (p ++ [y]).getLast? = some y := by simp
  have hdl : (p ++ [y]).dropLast = p := by simp
  unfold hpop at hx
  rw [hgl, hdl] at hx
  cases p with
  | nil =>
    obtain ⟨rfl, rfl⟩ : y = x ∧ [] = rest := by simpa using hx
    rw [if_neg (by simp)]
    k_steps
    rename Fr _ _ _ _ => F4
    rename News _ _ _ _ => N4
    exact ret _ _ _ F4.keep (N4 _ List.mem_cons_self).1
  | cons r0 r =>
    obtain ⟨rfl, rfl⟩ : r0 = x ∧ su ltI y (r.length + 1) (y :: r) 0 = rest := by simpa using hx
    rw [if_pos (by simp)]
    k_steps
    unfold NxStop
    refine sub_led N3 List.mem_cons_self (by omega) (by omega) (v := .ref r0.a) rfl ?_
    k_steps
    unfold NxStop
    rename Fr _ _ _ _ => F4
    rename News _ _ _ _ => N4
    refine set_led F4 N4 (.head (fun _ h => nomatch h)) (by omega) (by simp) (by omega) fun h5 F5 N5 => ?_
    have e5 : ((r0 :: r).map itRef).set (0 : Int).toNat (.ref y.a) = (y :: r).map itRef := rfl
    rw [e5] at N5
    k_steps
    unfold NxStop
    refine wp_call (by omega) ?_
    refine c_siftup (q := q) (its := y :: r) (x := y) rfl (cx_call B1 X1 T1 F5 N5 rfl rfl) (N5 _ List.mem_cons_self).1 (fun p hp => stays_hide F5 N5 _ _ ?_) rfl (by simp at hl ⊢; omega) fun h6 tk6 k6 hq6 => ?_
    · rcases List.mem_cons.mp hp with e | e
      · rw [e]; exact hit y (by simp)
      · exact hit p (by simp [e])
    · have F6 := fr_after F5 N5 k6
      have N6 := news_after N5 (fun _ h => nomatch h) k6 hq6
      k_steps
      exact ret _ _ _ F6.keep hq6
end
end Mine
end
section
open PySem PySem.W PyProof.Rows
theorem Mine.anew4 {M : Model} {A : Around} {env : Env} {Q : Flow → Shared → Prop} {E : Value → Shared → Prop} {s : Shared} (h : wpAny M A (execs [] env) Q E s) : wpAny M A (execs [] env) Q E s := by first | (walk1; done) | exact h
end
section
open PySem PySem.W PyProof.Rows PySem.Calls PyProof.Rows.LCg
set_option maxHeartbeats 4000000
namespace Mine
section
variable {α β : Type} {lt : α → α → Bool} {lt' : β → β → Bool} (f : α → β) (S : α → Prop)
theorem sd_map (hf : ∀ a b, S a → S b → lt' (f a) (f b) = lt a b) {x : α} (hx : S x) : ∀ (n : Nat) (l : List α) (pos : Nat), (∀ y ∈ l, S y) → (sd lt x n l pos).map f = sd lt' (f x) n (l.map f) pos ∧ ∀ y ∈ sd lt x n l pos, S y := by
  have mset : ∀ (l : List α) (pos : Nat) (z : α), (∀ y ∈ l, S y) → S z → ∀ y ∈ l.set pos z, S y := fun l pos z h hz y hy => by
    rcases List.mem_or_eq_of_mem_set hy with e | e
    · exact h y e
    · rw [e]; exact hz
  intro n
  induction n with
  | zero => intro l pos h; exact ⟨by simp [sd, List.map_set], mset l pos x h hx⟩
  | succ n ih =>
    intro l pos h
    unfold sd
    rw [List.getElem?_map]
    by_cases h0 : pos = 0
    · simp only [h0, if_true]; exact ⟨by simp [List.map_set], mset l 0 x h hx⟩
    · simp only [h0, if_false]
      cases hp : l[(pos - 1) / 2]? with
      | none => exact ⟨by simp [List.map_set], mset l pos x h hx⟩
      | some par =>
        have hpar : S par := h par (List.mem_of_getElem? hp)
        simp only [Option.map_some, hf x par hx hpar]
        split
        · rw [← List.map_set]; exact ih _ _ (mset l pos par h hpar)
        · exact ⟨by simp [List.map_set], mset l pos x h hx⟩
theorem su_map (hf : ∀ a b, S a → S b → lt' (f a) (f b) = lt a b) {x : α} (hx : S x) : ∀ (n : Nat) (l : List α) (pos : Nat), (∀ y ∈ l, S y) → (su lt x n l pos).map f = su lt' (f x) n (l.map f) pos ∧ ∀ y ∈ su lt x n l pos, S y := by
  have mset : ∀ (l : List α) (pos : Nat) (z : α), (∀ y ∈ l, S y) → S z → ∀ y ∈ l.set pos z, S y := fun l pos z h hz y hy => by
    rcases List.mem_or_eq_of_mem_set hy with e | e
    · exact h y e
    · rw [e]; exact hz
  intro n
  induction n with
  | zero => intro l pos h; simp only [su]; rw [← List.map_set]; exact sd_map f S hf hx _ _ _ (mset l pos x h hx)
  | succ n ih =>
    intro l pos h
    simp only [su]
    rw [List.getElem?_map, List.getElem?_map]
    cases h1 : l[2 * pos + 1]? with
    | none => simp only [Option.map_none]; rw [← List.map_set]; exact sd_map f S hf hx _ _ _ (mset l pos x h hx)
    | some c1 =>
      have s1 : S c1 := h c1 (List.mem_of_getElem? h1)
      cases h2 : l[2 * pos + 2]? with
      | none => simp only [Option.map_none, Option.map_some]; rw [← List.map_set]; exact ih _ _ (mset l pos c1 h s1)
      | some c2 =>
        have s2 : S c2 := h c2 (List.mem_of_getElem? h2)
        simp only [Option.map_some, hf c1 c2 s1 s2]
        split
        · rw [← List.map_set]; exact ih _ _ (mset l pos c1 h s1)
        · rw [← List.map_set]; exact ih _ _ (mset l pos c2 h s2)
theorem hpush_map (hf : ∀ a b, S a → S b → lt' (f a) (f b) = lt a b) {x : α} (hx : S x) {l : List α} (hl : ∀ y ∈ l, S y) : (hpush lt l x).map f = hpush lt' (l.map f) (f x) ∧ ∀ y ∈ hpush lt l x, S y := by
  unfold hpush
  have := sd_map f S hf hx l.length (l ++ [x]) l.length (fun y hy => by rcases List.mem_append.mp hy with e | e; exact hl y e; rw [List.mem_singleton.mp e]; exact hx)
  rw [List.map_append] at this
  rw [List.length_map]; exact this
theorem hpop_map (hf : ∀ a b, S a → S b → lt' (f a) (f b) = lt a b) {l : List α} (hl : ∀ y ∈ l, S y) : hpop lt' (l.map f) = (hpop lt l).map (fun p => (f p.1, p.2.map f)) ∧ ∀ x r, hpop lt l = some (x, r) → S x ∧ ∀ y ∈ r, S y := by
  unfold hpop
  rcases List.eq_nil_or_concat l with rfl | ⟨p, y, rfl⟩
  · exact ⟨rfl, fun _ _ h => nomatch h⟩
  · have hy : S y := hl y (by simp)
    have hp : ∀ z ∈ p, S z := fun z hz => hl z (by simp [hz])
    cases p with
    | nil => exact ⟨rfl, fun x r h => by injection h with h; injection h with h1 h2; subst h1 h2; exact ⟨hy, fun _ h => nomatch h⟩⟩
    | cons r0 r =>
      have su' := su_map f S hf hy (r.length + 1) (y :: r) 0 (fun z hz => by rcases List.mem_cons.mp hz with e | e; rw [e]; exact hy; exact hp z (by simp [e]))
      have e1 : ((r0 :: r).concat y).map f = (f r0 :: r.map f).concat (f y) := by simp
      have d1 : ∀ {γ : Type} (a : γ) (b : List γ) (c : γ), ((a :: b).concat c).dropLast = a :: b := fun a b c => by rw [List.concat_eq_append]; exact List.dropLast_concat
      have d2 : ∀ {γ : Type} (a : γ) (b : List γ) (c : γ), ((a :: b).concat c).getLast? = some c := fun a b c => by rw [List.concat_eq_append]; exact List.getLast?_concat
      rw [e1, d1, d2, d1, d2]
      simp only [Option.map_some]
      refine ⟨by rw [List.length_map, su'.1]; rfl, fun x q h => ?_⟩
      injection h with h; injection h with h1 h2; subst h1 h2
      exact ⟨hp _ (by simp), su'.2⟩
end
/-- what a begun text is -/
structure Dt where
  n : Int
  x : Str
  k : Int
noncomputable def dat (p : It) : Dt := ⟨p.n, p.x, p.k⟩
noncomputable def ltD (p q : Dt) : Bool := ltK p.n p.x p.k q.n q.x q.k
theorem hpush_dat (l : List It) (x : It) : (hpush ltI l x).map dat = hpush ltD (l.map dat) (dat x) := (hpush_map dat (fun _ => True) (lt := ltI) (lt' := ltD) (fun _ _ _ _ => rfl) trivial (fun _ _ => trivial)).1
theorem hpop_dat (l : List It) : hpop ltD (l.map dat) = (hpop ltI l).map (fun p => (dat p.1, p.2.map dat)) := (hpop_map dat (fun _ => True) (lt := ltI) (lt' := ltD) (fun _ _ _ _ => rfl) (fun _ _ => trivial)).1
structure Par where
  E : Nat → Str
  R : Nat → Str
  H : Int → Int → Bool
noncomputable def moreD (P : Par) (x : Dt) (i : Nat) : Dt := ⟨(x.x ++ P.E i ++ P.R (x.k.fdiv 3 + 2).toNat).length, x.x ++ P.E i ++ P.R (x.k.fdiv 3 + 2).toNat, 3 * x.k.fdiv 3 + 3 + i⟩
noncomputable def pushD (P : Par) (x : Dt) (q : List Dt) (i : Nat) : List Dt := if x.k = -1 ∨ P.H (3 * x.k.fdiv 3 + 3 + i) x.k = true then hpush ltD q (moreD P x i) else q
/-- _law_from_the_shortest on plain data -/
noncomputable def runD (P : Par) : Nat → List Dt → List Str → Option (List Str)
  | 0, _, _ => none
  | n + 1, q, f => if 100 < q.length ∨ 100 < f.length then none else match hpop ltD q with
    | none => some f
    | some (x, rest) => if 5 < x.k then runD P n rest (f ++ [x.x]) else if -1 ≤ x.k ∧ x.x.length ≤ 50 then runD P n (pushD P x (pushD P x (pushD P x rest 0) 1) 2) f else none
end Mine
end
section
open PySem PySem.W PyProof.Rows PySem.Calls PyProof.Rows.LCg
set_option maxHeartbeats 1000000
namespace Mine
noncomputable def runT {α : Type} (f : Nat → Nat → Bool) : KasT α → α
  | .ret a => a
  | .ask i j k => runT f (k (f i j))
noncomputable def okT {α : Type} (n : Nat) (f : Nat → Nat → Bool) : KasT α → Bool
  | .ret _ => true
  | .ask i j k => decide (i < n) && decide (j < n) && okT n f (k (f i j))
theorem wp_runT {α : Type} {cmp : Nat → Nat → (Bool → Shared → Prop) → Shared → Prop} {n : Nat} {f : Nat → Nat → Bool} {s : Shared} (hc : ∀ i j (C : Bool → Shared → Prop), i < n → j < n → C (f i j) s → cmp i j C s) {Q : α → Shared → Prop} :
    ∀ t : KasT α, okT n f t = true → Q (runT f t) s → t.kasWp cmp Q s
  | .ret _, _, h => h
  | .ask i j k, ok, h => by
    simp only [okT, Bool.and_eq_true, decide_eq_true_eq] at ok
    exact hc i j _ ok.1.1 ok.1.2 (wp_runT hc (k (f i j)) ok.2 h)
theorem runT_congr {α : Type} {n : Nat} {f f' : Nat → Nat → Bool} (h : ∀ i j, i < n → j < n → f i j = f' i j) : ∀ t : KasT α, okT n f' t = true → okT n f t = true ∧ runT f t = runT f' t
  | .ret _, _ => ⟨rfl, rfl⟩
  | .ask i j k, ok => by
    simp only [okT, Bool.and_eq_true, decide_eq_true_eq] at ok ⊢
    rw [h i j ok.1.1 ok.1.2]
    have := runT_congr h (k (f' i j)) ok.2
    refine ⟨⟨ok.1, this.1⟩, ?_⟩
    show runT f (k (f i j)) = runT f' (k (f' i j))
    rw [h i j ok.1.1 ok.1.2]; exact this.2

/-- shorter first, of like lengths the less -/
noncomputable def ltT (x y : Str) : Bool := if x.length = y.length then decide (x.cps.toList < y.cps.toList) else decide (x.length < y.length)

noncomputable abbrev Pr := Addr × Tok × Str × Tok
noncomputable abbrev prObj (p : Pr) : Obj := { cls := .type "tuple", data := .seq #[.int p.2.2.1.length p.2.1, .str p.2.2.1 p.2.2.2] }
noncomputable def prRef (p : Pr) : Value := .ref p.1
noncomputable def prEnt (p : Pr) : Addr × Obj := (p.1, prObj p)
noncomputable def txt (xs : List Str) (i : Nat) : Str := xs.getD i ⟨#[]⟩
noncomputable def sLt (xs : List Str) (i j : Nat) : Bool := ltT (txt xs i) (txt xs j)
/-- the texts in the order that «sorted» gives them -/
noncomputable def sortS (xs : List Str) : List Str := (runT (sLt xs) (kas_sort xs.length)).toList.map fun i => txt xs i
noncomputable abbrev prTxts (ps : List Pr) : List Str := ps.map (·.2.2.1)

section
variable {prog : Program} {w : World} {A : Around} {E : Value → Shared → Prop} {s : Shared} {h₀ : Heap} {L : Addr} {m : Str → Option Value} {news : List (Addr × Obj)}
theorem prs_tups {h : Heap} : ∀ {ps : List Pr}, (∀ p ∈ ps, h.get? p.1 = some (prObj p)) → KatTups h (ps.map prRef) (ps.map fun p => .int p.2.2.1.length p.2.1)
  | [], _ => trivial
  | p :: ps, H => .cons (H p List.mem_cons_self) rfl rfl rfl (prs_tups fun q hq => H q (List.mem_cons_of_mem _ hq))
theorem pr_lt {p q : Pr} {Q : Bool → Shared → Prop} (hp : s.heap.get? p.1 = some (prObj p)) (hq : s.heap.get? q.1 = some (prObj q)) (h : Q (ltT p.2.2.1 q.2.2.1) s) : wpAny (model prog w) A (keyLt' (tuples' true) (prRef p) (prRef q)) Q E s := by
  refine kat_lt hp rfl hq rfl ?_
  show KatLex prog w A true (decide (2 < 2)) Q [(.int p.2.2.1.length p.2.1, .int q.2.2.1.length q.2.1), (.str p.2.2.1 p.2.2.2, .str q.2.2.1 q.2.2.2)] 0 s
  refine kat_cons (wpAny_eqBool_int ?_)
  unfold ltT at h
  by_cases e : p.2.2.1.length = q.2.2.1.length
  · rw [if_pos e] at h
    rw [e, beq_self_eq_true]
    refine kat_yes (kat_cons (wpAny_eqBool_str ?_))
    by_cases e2 : p.2.2.1 = q.2.2.1
    · rw [decide_eq_true e2]
      refine kat_yes (kat_nil ?_)
      rw [e2, decide_eq_false (List.lt_irrefl _)] at h
      exact h
    · rw [decide_eq_false e2]
      refine kat_no ?_
      show wpAny _ _ (oneLt' false _ _) _ _ _
      exact kat_one _ _ (lt_str (by exact h))
  · rw [if_neg e] at h
    have e' : ((p.2.2.1.length : Int) == (q.2.2.1.length : Int)) = false := by simp; omega
    rw [e']
    refine kat_no ?_
    show wpAny _ _ (oneLt' true _ _) _ _ _
    refine oneLt_int ?_
    rw [show decide ((p.2.2.1.length : Int) < (q.2.2.1.length : Int)) = decide (p.2.2.1.length < q.2.2.1.length) by simp]
    exact h

theorem sorted_prs {l : Addr} {ps : List Pr} {Q : Value → Shared → Prop} (F : Fr h₀ L s.heap m) (N : News h₀ L s.heap news) (hm : ∀ p ∈ ps, prEnt p ∈ news) (hl : s.heap.IsList l (ps.map prRef).toArray) (h2 : 2 ≤ ps.length) (h64 : ps.length < 64)
    (hok : okT ps.length (sLt (prTxts ps)) (kas_sort ps.length) = true)
    (h : ∀ D c h', Fr h₀ L h' m → News h₀ L h' ((D, W.listOf ((runT (sLt (prTxts ps)) (kas_sort ps.length)).toList.map fun i => (ps.map prRef).getD i .none).toArray c) :: news) → (∀ q ∈ news, q.1 < D) → Q (.ref D) { s with heap := h' }) :
    wpAny (model prog w) A (call (.builtin "sorted") [.ref l]) Q E s := by
  refine kat_sorted F N hl (by simpa using h2) (by simpa using h64) fun D e1 h' F' N' lt => ?_
  have N₁ : News h₀ L h' news := fun p hp => N' p (List.mem_cons_of_mem _ hp)
  have at_ : ∀ p ∈ ps, h'.get? p.1 = some (prObj p) := fun p hp => (N₁ _ (hm p hp)).1
  refine kat_kind (T := .type "int") (prs_tups at_) (by simp; omega) (fun v hv => ?_) (by simp) ?_
  · obtain ⟨p, _, rfl⟩ := List.mem_map.mp hv
    exact Looks.of_pure rfl
  · rw [List.length_map]
    refine wp_runT (n := ps.length) (f := sLt (prTxts ps)) (fun i j C hi hj hC => ?_) _ hok ?_
    · have gi : (ps.map prRef).getD i Value.none = prRef ps[i] := by simp [hi]
      have gj : (ps.map prRef).getD j Value.none = prRef ps[j] := by simp [hj]
      unfold kas_ask
      rw [gi, gj]
      refine pr_lt (at_ _ (List.getElem_mem hi)) (at_ _ (List.getElem_mem hj)) ?_
      have e : sLt (prTxts ps) i j = ltT ps[i].2.2.1 ps[j].2.2.1 := by simp [sLt, txt, hi, hj]
      rw [← e]; exact hC
    · refine KasFin.intro F' N' (.head fun p hp => Nat.ne_of_lt (lt p hp)) fun h'' c F'' N'' => ?_
      exact h D c h'' F'' N'' lt

/-- a comprehension over pairs, by what holds of the items so far -/
theorem comp_indP {env : Env} {elt : PySem.Expr} {x x₂ : Str} {scope : Scope} {cl : List (Str × Addr)} {S : List (Addr × Obj) → Prop} {P : Nat → Value → Prop} {Fin : List Value → List (Addr × Obj) → Prop} (G : Nat → List Value → List (Addr × Obj) → Prop) (n : Nat)
    (turn : ∀ i ys nw v, i < n → G i ys nw → P i v → ∃ (t : Addr) (ot : Obj) (v₁ v₂ : Value) (nt : Nat), v = .ref t ∧ (t, ot) ∈ nw ∧ ot.cls = .type "tuple" ∧ ot.data = .seq #[v₁, v₂] nt ∧
      ∀ I oI C oC D m₂ h tk (E' : Value → Shared → Prop), NsObj oC m₂ → m₂ x = some v₁ → m₂ x₂ = some v₂ → Fr h₀ L h m → News h₀ L h ((I, oI) :: (C, oC) :: (D, LCg.lst ys) :: nw) → Off3 I C D nw → ((@Ne Nat I C) ∧ (@Ne Nat I D) ∧ (@Ne Nat C D)) →
      wpAny (model prog w) A (eval elt (compEnvC scope cl C env)) (CompEnd h₀ L m { s with heap := h, toks := tk } I oI C oC D (LCg.lst ys) S (fun y nw' => G (i + 1) (ys ++ [y]) nw')) E' { s with heap := h, toks := tk })
    (fin : ∀ ys nw, G n ys nw → Fin ys nw) : ∀ k i ys nw, i + k = n → G i ys nw → LCp.CompRestP prog w A h₀ L m env elt x x₂ scope cl s S P Fin k i ys nw
  | 0, i, ys, nw, e, hG => fin ys nw (by rw [← e]; exact hG)
  | k + 1, i, ys, nw, e, hG => fun v hP => by
    obtain ⟨t, ot, v₁, v₂, nt, h1, h2, h3, h4, h5⟩ := turn i ys nw v (by omega) hG hP
    exact ⟨t, ot, v₁, v₂, nt, h1, h2, h3, h4, fun I oI C oC D m₂ h tk E' g1 g2 g3 g4 g5 g6 g7 =>
      wpAny_mono (h5 I oI C oC D m₂ h tk E' g1 g2 g3 g4 g5 g6 g7) (fun y s' hy => CompEnd.mono hy fun y nw' hG' => comp_indP G n turn fin k (i + 1) (ys ++ [y]) nw' (by omega) hG') fun _ _ e => e⟩
end
end Mine
end
section
open PySem PySem.Sre
set_option maxHeartbeats 4000000
namespace Mine
noncomputable def code2 : Array Nat := #[14, 9, 4, 1, 2, 16, 10, 16, 13, 0, 7, 7, 16, 13, 16, 10, 15, 18, 5, 16, 10, 15, 13, 11, 16, 13, 5, 5, 0, 16, 10, 1, 15, 2, 0, 1]
noncomputable def code1 : Array Nat := #[14, 4, 0, 1, 1, 6, 1, 16, 46, 1]

theorem runFor_done {m : M} (h : m.outcome.isSome = true) : ∀ n, M.runFor n m = m
  | 0 => rfl
  | n + 1 => by unfold M.runFor; rw [if_pos h]
theorem runFor_succ (n : Nat) (m : M) : M.runFor (n + 1) m = if m.outcome.isSome = true then m else M.runFor n m.step := rfl
theorem runFor_add (a b : Nat) (m : M) : M.runFor (a + b) m = M.runFor b (M.runFor a m) := by
  induction a generalizing m with
  | zero => rw [Nat.zero_add]; rfl
  | succ a ih =>
    rw [show a + 1 + b = a + b + 1 by omega, runFor_succ, runFor_succ]
    by_cases h : m.outcome.isSome = true
    · rw [if_pos h, if_pos h]; exact (runFor_done h b).symm
    · rw [if_neg h, if_neg h]; exact ih _

/-- the machine ends within n steps in m' -/
noncomputable def Ends (n : Nat) (m m' : M) : Prop := M.runFor n m = m' ∧ m'.outcome.isSome = true
theorem Ends.more {n k : Nat} {m m' : M} (h : Ends n m m') (hk : n ≤ k) : Ends k m m' := by
  obtain ⟨rfl, h2⟩ := h
  refine ⟨?_, h2⟩
  obtain ⟨j, rfl⟩ := Nat.le.dest hk
  rw [runFor_add]; exact runFor_done h2 j
theorem Ends.step {n : Nat} {m m' : M} (h : Ends n m.step m') (h0 : m.outcome = none) : Ends (n + 1) m m' := by
  refine ⟨?_, h.2⟩
  unfold M.runFor
  rw [if_neg (by rw [h0]; simp)]; exact h.1

/-- a state of the machine over a written code, a given text -/
@[reducible] noncomputable def st (code text : Array Nat) (lim start pc pos handed : Nat) (om : Bool) (fr : List Sre.Frame) (wgt : Nat) (ans : Option Bool) (seen : Seen) : M :=
  { code, text, lim, start, lastStart := lim, wholeText := false, mustAdvance := false, pc, pos, handed, outermost := om, marks := #[], frames := fr, weight := wgt, answer := ans, seen, outcome := none }

section
variable {text : Array Nat} {lim s0 pos hd : Nat} {om : Bool} {fr : List Sre.Frame} {wgt : Nat} {seen : Seen}

theorem lit_at {code : Array Nat} {pc c : Nat} (h0 : pc < code.size) (h1 : code.getD pc 0 = 16) (h2 : code.getD (pc + 1) 0 = c) :
    (st code text lim s0 pc pos hd om fr wgt none seen).step = if pos < lim ∧ text.getD pos 0 = c then st code text lim s0 (pc + 2) (pos + 1) hd om fr wgt none (seen.add 16) else st code text lim s0 pc pos hd om fr wgt (some false) (seen.add 16) := by
  unfold M.step
  simp only [Option.isSome_none, Bool.false_eq_true, if_false]
  rw [if_pos h0]
  unfold M.exec
  simp only [M.word, Nat.add_zero, h1]
  by_cases hp : pos < lim
  · have : ¬ (pos ≥ lim) := by omega
    simp [this, accepts, itemWidth, h1, h2, hp, ops]
    by_cases hc : text[pos]?.getD 0 = c
    · simp [hc]
    · have e : (text[pos]?.getD 0 == c) = false := by simp [hc]
      simp [hc, M.say, e]
  · have : pos ≥ lim := by omega
    simp [this, hp, M.say, ops]

@[reducible] noncomputable def F0 (pc s : Nat) (om : Bool) : Sre.Frame := { wait := .nextStart, pc, pos := s, outermost := om }
@[reducible] noncomputable def Fb (pc s : Nat) (om : Bool) : Sre.Frame := { wait := .nextBranch, pc, pos := s, outermost := om }

/-- where the search stops: matched from b to e -/
noncomputable def Found (n : Nat) (m : M) (b e : Nat) : Prop := ∃ m', Ends n m m' ∧ m'.outcome = some .matched ∧ m'.start = b ∧ m'.handed = e
noncomputable def Fails (n : Nat) (m : M) : Prop := ∃ m', Ends n m m' ∧ m'.outcome = some .failed
theorem Found.step {n : Nat} {m : M} {b e : Nat} (h : Found n m.step b e) (h0 : m.outcome = none) : Found (n + 1) m b e :=
  let ⟨m', a, c⟩ := h; ⟨m', a.step h0, c⟩
theorem Fails.step {n : Nat} {m : M} (h : Fails n m.step) (h0 : m.outcome = none) : Fails (n + 1) m :=
  let ⟨m', a, c⟩ := h; ⟨m', a.step h0, c⟩
theorem Found.more {n k : Nat} {m : M} {b e : Nat} (h : Found n m b e) (hk : n ≤ k) : Found k m b e :=
  let ⟨m', a, c⟩ := h; ⟨m', a.more hk, c⟩
theorem Fails.more {n k : Nat} {m : M} (h : Fails n m) (hk : n ≤ k) : Fails k m :=
  let ⟨m', a, c⟩ := h; ⟨m', a.more hk, c⟩

variable {s : Nat}

theorem b_branch : (st code2 text lim s 10 s s om [F0 10 s om] 1 none seen).step = st code2 text lim s 12 s s om [Fb 11 s om, F0 10 s om] 2 none (seen.add 7) := by kernel_rfl
theorem b_jump16 : (st code2 text lim s 16 pos hd om fr wgt none seen).step = st code2 text lim s 35 pos hd om fr wgt none (seen.add 15) := by kernel_rfl
theorem b_jump21 : (st code2 text lim s 21 pos hd om fr wgt none seen).step = st code2 text lim s 35 pos hd om fr wgt none (seen.add 15) := by kernel_rfl
theorem b_jump32 : (st code2 text lim s 32 pos hd om fr wgt none seen).step = st code2 text lim s 35 pos hd om fr wgt none (seen.add 15) := by kernel_rfl
theorem b_succ : (st code2 text lim s 35 pos hd om fr wgt none seen).step = st code2 text lim s 35 pos pos om fr wgt (some true) (seen.add 1) := by cases om <;> kernel_rfl
theorem b_yes {pc q : Nat} {o : Bool} : (st code2 text lim s pc pos hd o [Fb q s0 om, F0 10 s0 om] 2 (some true) seen).step = st code2 text lim s q s0 hd om [F0 10 s0 om] 1 (some true) seen := by kernel_rfl
theorem b_yes0 {pc : Nat} {o : Bool} : (st code2 text lim s pc pos hd o [F0 10 s0 om] 1 (some true) seen).step = st code2 text lim s 10 s0 hd om [] 0 (some true) seen := by kernel_rfl
theorem b_end {pc : Nat} {o : Bool} : (st code2 text lim s pc pos hd o [] wgt (some true) seen).step = { st code2 text lim s pc pos hd o [] wgt (some true) seen with outcome := some .matched } := by kernel_rfl
theorem b_alt2 {pc : Nat} {o : Bool} : (st code2 text lim s pc pos hd o [Fb 11 s om, F0 10 s om] 2 (some false) seen).step = st code2 text lim s 19 s s om [Fb 18 s om, F0 10 s om] 2 none seen := by kernel_rfl
theorem b_alt3 {pc : Nat} {o : Bool} : (st code2 text lim s pc pos hd o [Fb 18 s om, F0 10 s om] 2 (some false) seen).step = st code2 text lim s 24 s s om [Fb 23 s om, F0 10 s om] 2 none seen := by kernel_rfl
@[reducible] noncomputable def Fn (s : Nat) (om : Bool) : Sre.Frame := { wait := .lookNot, pc := 26, pos := s, outermost := om }
theorem b_not : (st code2 text lim s 26 pos hd om [Fb 23 s om, F0 10 s om] 2 none seen).step = st code2 text lim s 29 pos pos false [Fn pos om, Fb 23 s om, F0 10 s om] 3 none (seen.add 5) := by kernel_rfl
theorem b_noted {pc q : Nat} {o : Bool} : (st code2 text lim s pc pos hd o [Fn q om, Fb 23 s om, F0 10 s om] 3 (some false) seen).step = st code2 text lim s 32 q hd om [Fb 23 s om, F0 10 s om] 2 none seen := by kernel_rfl

theorem run2_end {q : Nat} : Found 5 (st code2 text lim s 35 pos hd om [Fb q s om, F0 10 s om] 2 none seen) s pos := by
  refine Found.step (n := 4) ?_ rfl
  rw [b_succ]
  refine Found.step (n := 3) ?_ rfl
  rw [b_yes]
  refine Found.step (n := 2) ?_ rfl
  rw [b_yes0]
  refine Found.step (n := 1) ?_ rfl
  rw [b_end]
  exact ⟨_, ⟨rfl, rfl⟩, rfl, rfl, rfl⟩

theorem run2_crlf (h1 : s < lim) (h2 : text.getD s 0 = 13) (h3 : s + 1 < lim) (h4 : text.getD (s + 1) 0 = 10) :
    Found 40 (st code2 text lim s 10 s s om [F0 10 s om] 1 none seen) s (s + 2) := by
  refine Found.more (n := 9) ?_ (by omega)
  refine Found.step (n := 8) ?_ rfl
  rw [b_branch]
  refine Found.step (n := 7) ?_ rfl
  rw [lit_at (c := 13) (by decide) rfl rfl, if_pos ⟨h1, h2⟩]
  refine Found.step (n := 6) ?_ rfl
  rw [lit_at (c := 10) (by decide) rfl rfl, if_pos ⟨h3, h4⟩]
  refine Found.step (n := 5) ?_ rfl
  rw [b_jump16]
  exact run2_end

theorem run2_cr (h1 : s < lim) (h2 : text.getD s 0 = 13) (h3 : ¬ (s + 1 < lim ∧ text.getD (s + 1) 0 = 10)) :
    Found 40 (st code2 text lim s 10 s s om [F0 10 s om] 1 none seen) s (s + 1) := by
  have h5 : ¬ (s < lim ∧ text.getD s 0 = 10) := fun h => by rw [h2] at h; exact absurd h.2 (by decide)
  refine Found.more (n := 16) ?_ (by omega)
  refine Found.step (n := 15) ?_ rfl
  rw [b_branch]
  refine Found.step (n := 14) ?_ rfl
  rw [lit_at (c := 13) (by decide) rfl rfl, if_pos ⟨h1, h2⟩]
  refine Found.step (n := 13) ?_ rfl
  rw [lit_at (c := 10) (by decide) rfl rfl, if_neg h3]
  refine Found.step (n := 12) ?_ rfl
  rw [b_alt2]
  refine Found.step (n := 11) ?_ rfl
  rw [lit_at (c := 10) (by decide) rfl rfl, if_neg h5]
  refine Found.step (n := 10) ?_ rfl
  rw [b_alt3]
  refine Found.step (n := 9) ?_ rfl
  rw [lit_at (c := 13) (by decide) rfl rfl, if_pos ⟨h1, h2⟩]
  refine Found.step (n := 8) ?_ rfl
  rw [b_not]
  refine Found.step (n := 7) ?_ rfl
  rw [lit_at (c := 10) (by decide) rfl rfl, if_neg h3]
  refine Found.step (n := 6) ?_ rfl
  rw [b_noted]
  refine Found.step (n := 5) ?_ rfl
  rw [b_jump32]
  exact run2_end

theorem run2_lf (h1 : s < lim) (h2 : text.getD s 0 = 10) :
    Found 40 (st code2 text lim s 10 s s om [F0 10 s om] 1 none seen) s (s + 1) := by
  have h5 : ¬ (s < lim ∧ text.getD s 0 = 13) := fun h => by rw [h2] at h; exact absurd h.2 (by decide)
  refine Found.more (n := 10) ?_ (by omega)
  refine Found.step (n := 9) ?_ rfl
  rw [b_branch]
  refine Found.step (n := 8) ?_ rfl
  rw [lit_at (c := 13) (by decide) rfl rfl, if_neg h5]
  refine Found.step (n := 7) ?_ rfl
  rw [b_alt2]
  refine Found.step (n := 6) ?_ rfl
  rw [lit_at (c := 10) (by decide) rfl rfl, if_pos ⟨h1, h2⟩]
  refine Found.step (n := 5) ?_ rfl
  rw [b_jump21]
  exact run2_end

theorem a_succ : (st code1 text lim s 9 pos hd om fr wgt none seen).step = st code1 text lim s 9 pos pos om fr wgt (some true) (seen.add 1) := by cases om <;> kernel_rfl
theorem a_yes0 {pc : Nat} {o : Bool} : (st code1 text lim s pc pos hd o [F0 5 s0 om] 1 (some true) seen).step = st code1 text lim s 5 s0 hd om [] 0 (some true) seen := by kernel_rfl
theorem a_end {pc : Nat} {o b : Bool} : (st code1 text lim s pc pos hd o [] wgt (some b) seen).step = { st code1 text lim s pc pos hd o [] wgt (some b) seen with outcome := some (if b then .matched else .failed) } := by kernel_rfl
theorem at_line0 : (st code1 text lim s 5 s s om [F0 5 s om] 1 none seen).step = if (s == 0 || text.getD (s - 1) 0 == 10) = true then st code1 text lim s 7 s s om [F0 5 s om] 1 none ((seen.add 6).add 44) else st code1 text lim s 5 s s om [F0 5 s om] 1 (some false) ((seen.add 6).add 44) := by kernel_rfl
theorem at_line : (st code1 text lim s 5 s s om [F0 5 s om] 1 none seen).step =
    if s = 0 ∨ text.getD (s - 1) 0 = 10 then st code1 text lim s 7 s s om [F0 5 s om] 1 none ((seen.add 6).add 44) else st code1 text lim s 5 s s om [F0 5 s om] 1 (some false) ((seen.add 6).add 44) := by
  rw [at_line0]
  by_cases h : s = 0 ∨ text.getD (s - 1) 0 = 10
  · rw [if_pos h, if_pos (by simpa using h)]
  · rw [if_neg h, if_neg (by simpa using h)]

theorem run1_hit (h0 : s = 0 ∨ text.getD (s - 1) 0 = 10) (h1 : s < lim) (h2 : text.getD s 0 = 46) :
    Found 10 (st code1 text lim s 5 s s om [F0 5 s om] 1 none seen) s (s + 1) := by
  refine Found.step (n := 9) ?_ rfl
  rw [at_line, if_pos h0]
  refine Found.step (n := 8) ?_ rfl
  rw [lit_at (c := 46) (by decide) rfl rfl, if_pos ⟨h1, h2⟩]
  refine Found.step (n := 7) ?_ rfl
  rw [a_succ]
  refine Found.step (n := 6) ?_ rfl
  rw [a_yes0]
  refine Found.step (n := 5) ?_ rfl
  rw [a_end]
  exact Found.more (n := 0) ⟨_, ⟨rfl, rfl⟩, rfl, rfl, rfl⟩ (by omega)

/-- no line begins with a dot from s up to e -/
noncomputable def NoDot (text : Array Nat) (s e : Nat) : Prop := ∀ j, s ≤ j → j < e → ¬ ((j = 0 ∨ text.getD (j - 1) 0 = 10) ∧ text.getD j 0 = 46)

theorem miss1 (h : ¬ ((s = 0 ∨ text.getD (s - 1) 0 = 10) ∧ s < lim ∧ text.getD s 0 = 46)) : ∃ k seen', k ≤ 2 ∧ M.runFor k (st code1 text lim s 5 s s om [F0 5 s om] 1 none seen) = st code1 text lim s 7 s s om [F0 5 s om] 1 (some false) seen' ∨
    k ≤ 2 ∧ M.runFor k (st code1 text lim s 5 s s om [F0 5 s om] 1 none seen) = st code1 text lim s 5 s s om [F0 5 s om] 1 (some false) seen' := by
  by_cases h0 : s = 0 ∨ text.getD (s - 1) 0 = 10
  · refine ⟨2, ((seen.add 6).add 44).add 16, .inl ⟨Nat.le_refl _, ?_⟩⟩
    rw [runFor_succ, if_neg (by simp), at_line, if_pos h0, runFor_succ, if_neg (by simp), lit_at (c := 46) (by decide) rfl rfl, if_neg (fun q => h ⟨h0, q⟩)]
    rfl
  · refine ⟨1, (seen.add 6).add 44, .inr ⟨by omega, ?_⟩⟩
    rw [runFor_succ, if_neg (by simp), at_line, if_neg h0]
    rfl
theorem run_split {k n : Nat} {m m1 : M} {b e : Nat} (h : M.runFor k m = m1) (h1 : Found n m1 b e) : Found (k + n) m b e := by
  obtain ⟨m', ⟨a, b'⟩, c⟩ := h1
  exact ⟨m', ⟨by rw [runFor_add, h]; exact a, b'⟩, c⟩
theorem run_splitF {k n : Nat} {m m1 : M} (h : M.runFor k m = m1) (h1 : Fails n m1) : Fails (k + n) m := by
  obtain ⟨m', ⟨a, b'⟩, c⟩ := h1
  exact ⟨m', ⟨by rw [runFor_add, h]; exact a, b'⟩, c⟩

theorem next1 {pc : Nat} (h : s < lim) : (st code1 text lim s pc s s om [F0 5 s om] 1 (some false) seen).step = st code1 text lim (s + 1) 5 (s + 1) (s + 1) false [F0 5 (s + 1) false] 1 none seen := by
  have e : (st code1 text lim s pc s s om [F0 5 s om] 1 (some false) seen).step = if s < lim then st code1 text lim (s + 1) 5 (s + 1) (s + 1) false [F0 5 (s + 1) false] 1 none seen else st code1 text lim s 5 s s om [] 0 (some false) seen := by kernel_rfl
  rw [e, if_pos h]
theorem next1_end {pc : Nat} : (st code1 text s s pc s s om [F0 5 s om] 1 (some false) seen).step = st code1 text s s 5 s s om [] 0 (some false) seen := by
  have e : (st code1 text s s pc s s om [F0 5 s om] 1 (some false) seen).step = if s < s then st code1 text s (s + 1) 5 (s + 1) (s + 1) false [F0 5 (s + 1) false] 1 none seen else st code1 text s s 5 s s om [] 0 (some false) seen := by kernel_rfl
  rw [e, if_neg (Nat.lt_irrefl _)]

theorem run1_found {b : Nat} (hb : b < lim) (hd0 : b = 0 ∨ text.getD (b - 1) 0 = 10) (hd1 : text.getD b 0 = 46) : ∀ (k s : Nat) (om : Bool) (seen : Seen), s + k = b → NoDot text s b → Found (3 * k + 10) (st code1 text lim s 5 s s om [F0 5 s om] 1 none seen) b (b + 1)
  | 0, s, om, seen, e, _ => by
    obtain rfl : s = b := by omega
    exact run1_hit hd0 hb hd1
  | k + 1, s, om, seen, e, nd => by
    obtain ⟨j, seen', q⟩ := miss1 (lim := lim) (om := om) (seen := seen) (s := s) (text := text) (fun q => nd s (Nat.le_refl _) (by omega) ⟨q.1, q.2.2⟩)
    have ih := fun sn => run1_found hb hd0 hd1 k (s + 1) false sn (by omega) (fun j h1 h2 => nd j (by omega) h2)
    rcases q with ⟨hj, q⟩ | ⟨hj, q⟩
    · exact (run_split q (Found.step (by rw [next1 (by omega)]; exact ih _) rfl)).more (by omega)
    · exact (run_split q (Found.step (by rw [next1 (by omega)]; exact ih _) rfl)).more (by omega)

theorem run1_fails : ∀ (k s : Nat) (om : Bool) (seen : Seen), s + k = lim → NoDot text s lim → Fails (3 * k + 10) (st code1 text lim s 5 s s om [F0 5 s om] 1 none seen)
  | 0, s, om, seen, e, _ => by
    obtain rfl : s = lim := by omega
    obtain ⟨j, seen', q⟩ := miss1 (lim := s) (om := om) (seen := seen) (s := s) (text := text) (fun q => by omega)
    have fin : ∀ pc sn, Fails 3 (st code1 text s s pc s s om [F0 5 s om] 1 (some false) sn) := fun pc sn => by
      refine Fails.step (n := 2) ?_ rfl
      rw [next1_end]
      refine Fails.step (n := 1) ?_ rfl
      rw [a_end]
      exact ⟨_, ⟨rfl, rfl⟩, rfl⟩
    rcases q with ⟨hj, q⟩ | ⟨hj, q⟩
    · exact (run_splitF q (fin _ _)).more (by omega)
    · exact (run_splitF q (fin _ _)).more (by omega)
  | k + 1, s, om, seen, e, nd => by
    obtain ⟨j, seen', q⟩ := miss1 (lim := lim) (om := om) (seen := seen) (s := s) (text := text) (fun q => nd s (Nat.le_refl _) (by omega) ⟨q.1, q.2.2⟩)
    have ih := fun sn => run1_fails k (s + 1) false sn (by omega) (fun j h1 h2 => nd j (by omega) h2)
    rcases q with ⟨hj, q⟩ | ⟨hj, q⟩
    · exact (run_splitF q (Fails.step (by rw [next1 (by omega)]; exact ih _) rfl)).more (by omega)
    · exact (run_splitF q (Fails.step (by rw [next1 (by omega)]; exact ih _) rfl)).more (by omega)

/-- the search from s on, pattern 1 -/
theorem search1_is : forSearch code1 text 0 s lim false = if (decide (s > lim) || decide (lim - s < 1)) = true then M.say { st code1 text lim s 5 s s true [] 0 none (({} : Seen).add 14) with lastStart := 0 } false
    else st code1 text lim s 5 s s true [F0 5 s true] 1 none (({} : Seen).add 14) := by kernel_rfl
theorem search1_found {b : Nat} (hsl : s ≤ b) (hb : b < lim) (hd0 : b = 0 ∨ text.getD (b - 1) 0 = 10) (hd1 : text.getD b 0 = 46) (nd : NoDot text s b) : Found (3 * lim + 20) (forSearch code1 text 0 s lim false) b (b + 1) := by
  rw [search1_is, if_neg (by simp; omega)]
  obtain ⟨k, rfl⟩ := Nat.le.dest hsl
  exact (run1_found hb hd0 hd1 k s true _ rfl nd).more (by omega)
theorem search1_fails (hsl : s ≤ lim) (nd : NoDot text s lim) : Fails (3 * lim + 20) (forSearch code1 text 0 s lim false) := by
  by_cases h : s < lim
  · rw [search1_is, if_neg (by simp; omega)]
    obtain ⟨k, hk⟩ := Nat.le.dest hsl
    exact (run1_fails k s true _ hk nd).more (by omega)
  · rw [search1_is, if_pos (by simp; omega)]
    exact Fails.more (n := 1) ⟨_, ⟨rfl, rfl⟩, rfl⟩ (by omega)

noncomputable def NoEnd (text : Array Nat) (s e : Nat) : Prop := ∀ j, s ≤ j → j < e → text.getD j 0 ≠ 10 ∧ text.getD j 0 ≠ 13
theorem inSet2 (c : Nat) (seen : Seen) : ∃ seen', inSet code2 c 36 5 true seen = .ok (decide (c = 10 ∨ c = 13), seen') := by
  have step : inSet code2 c 36 5 true seen = if c == 10 then .ok (true, seen.add 16) else if c == 13 then .ok (true, (seen.add 16).add 16) else .ok (false, ((seen.add 16).add 16).add 0) := by kernel_rfl
  rw [step]
  by_cases h : c = 10
  · subst h; exact ⟨_, rfl⟩
  · by_cases h' : c = 13
    · subst h'; exact ⟨_, rfl⟩
    · have e1 : (c == 10) = false := by simp [h]
      have e2 : (c == 13) = false := by simp [h']
      rw [e1, e2, decide_eq_false (by simp [h, h'])]
      exact ⟨_, rfl⟩
theorem admitted2_found {m : M} (hc : m.code = code2) (hl : m.lim = lim) (ht : m.text = text) {b : Nat} (hb : b < lim) (hbc : text.getD b 0 = 10 ∨ text.getD b 0 = 13) : ∀ (k fuel s : Nat) (seen : Seen), s + k = b → k < fuel → NoEnd text s b → ∃ seen', M.admitted m fuel s seen = .ok (some b, seen')
  | k, 0, _, _, _, h, _ => by omega
  | k, fuel + 1, s, seen, e, hf, nd => by
    unfold M.admitted
    rw [hc, hl, ht, if_neg (by omega)]
    show ∃ seen', ((match inSet code2 (text.getD s 0) 36 5 true seen with | .ok (true, seen) => .ok (some s, seen) | .ok (false, seen) => M.admitted m fuel (s + 1) seen | .error why => .error why) : Except String (Option Nat × Seen)) = .ok (some b, seen')
    obtain ⟨sn, q⟩ := inSet2 (text.getD s 0) seen
    rw [q]
    by_cases hk : k = 0
    · obtain rfl : s = b := by omega
      rw [decide_eq_true hbc]; exact ⟨_, rfl⟩
    · have z := nd s (Nat.le_refl _) (by omega)
      rw [decide_eq_false (fun q => q.elim z.1 z.2)]
      exact admitted2_found hc hl ht hb hbc (k - 1) fuel (s + 1) sn (by omega) (by omega) fun j h1 h2 => nd j (by omega) h2
theorem admitted2_none {m : M} (hc : m.code = code2) (hl : m.lim = lim) (ht : m.text = text) : ∀ (fuel s : Nat) (seen : Seen), NoEnd text s lim → ∃ seen', M.admitted m fuel s seen = .ok (none, seen')
  | 0, _, seen, _ => ⟨seen, rfl⟩
  | fuel + 1, s, seen, nd => by
    unfold M.admitted
    rw [hc, hl, ht]
    by_cases h : s ≥ lim
    · rw [if_pos h]; exact ⟨_, rfl⟩
    · rw [if_neg h]
      show ∃ seen', ((match inSet code2 (text.getD s 0) 36 5 true seen with | .ok (true, seen) => .ok (some s, seen) | .ok (false, seen) => M.admitted m fuel (s + 1) seen | .error why => .error why) : Except String (Option Nat × Seen)) = .ok (none, seen')
      obtain ⟨sn, q⟩ := inSet2 (text.getD s 0) seen
      have z := nd s (Nat.le_refl _) (by omega)
      rw [q, decide_eq_false (fun q => q.elim z.1 z.2)]
      exact admitted2_none hc hl ht fuel (s + 1) sn fun j h1 h2 => nd j (by omega) h2

@[reducible] noncomputable def st0 (text : Array Nat) (lim s : Nat) : M := st code2 text lim s 10 s s true [] 0 none (({} : Seen).add 14)
theorem search2_is : forSearch code2 text 0 s lim false = if (decide (s > lim) || decide (lim - s < 1)) = true then M.say { st0 text lim s with lastStart := 0 } false
    else (match M.admitted (st0 text lim s) (lim + 1 - s) s (({} : Seen).add 14) with
    | .ok (some b, seen) => { st0 text lim s with seen := seen }.attemptAt b true
    | .ok (none, seen) => { st0 text lim s with seen := seen }.say false
    | .error why => (st0 text lim s).stick why) := by kernel_rfl
theorem attempt2 {b : Nat} {sn : Seen} : M.attemptAt { st0 text lim s with seen := sn } b true = st code2 text lim b 10 b b true [F0 10 b true] 1 none sn := by kernel_rfl
theorem search2_at {b : Nat} (hsl : s ≤ b) (hb : b < lim) (hbc : text.getD b 0 = 10 ∨ text.getD b 0 = 13) (nd : NoEnd text s b) : ∃ seen, forSearch code2 text 0 s lim false = st code2 text lim b 10 b b true [F0 10 b true] 1 none seen := by
  rw [search2_is, if_neg (by simp; omega)]
  obtain ⟨k, hk⟩ := Nat.le.dest hsl
  obtain ⟨sn, q⟩ := admitted2_found (m := st0 text lim s) rfl rfl rfl hb hbc k (lim + 1 - s) s (({} : Seen).add 14) hk (by omega) nd
  rw [q]
  exact ⟨sn, attempt2⟩
theorem search2_crlf {b : Nat} (hsl : s ≤ b) (nd : NoEnd text s b) (h1 : b < lim) (h2 : text.getD b 0 = 13) (h3 : b + 1 < lim) (h4 : text.getD (b + 1) 0 = 10) : Found 40 (forSearch code2 text 0 s lim false) b (b + 2) := by
  obtain ⟨sn, q⟩ := search2_at hsl h1 (.inr h2) nd
  rw [q]; exact (run2_crlf h1 h2 h3 h4).more (by omega)
theorem search2_cr {b : Nat} (hsl : s ≤ b) (nd : NoEnd text s b) (h1 : b < lim) (h2 : text.getD b 0 = 13) (h3 : ¬ (b + 1 < lim ∧ text.getD (b + 1) 0 = 10)) : Found 40 (forSearch code2 text 0 s lim false) b (b + 1) := by
  obtain ⟨sn, q⟩ := search2_at hsl h1 (.inr h2) nd
  rw [q]; exact (run2_cr h1 h2 h3).more (by omega)
theorem search2_lf {b : Nat} (hsl : s ≤ b) (nd : NoEnd text s b) (h1 : b < lim) (h2 : text.getD b 0 = 10) : Found 40 (forSearch code2 text 0 s lim false) b (b + 1) := by
  obtain ⟨sn, q⟩ := search2_at hsl h1 (.inl h2) nd
  rw [q]; exact (run2_lf h1 h2).more (by omega)
theorem search2_fails (nd : NoEnd text s lim) : Fails 40 (forSearch code2 text 0 s lim false) := by
  by_cases h : s < lim
  · rw [search2_is, if_neg (by simp; omega)]
    obtain ⟨sn, q⟩ := admitted2_none (m := st0 text lim s) rfl rfl rfl (lim + 1 - s) s (({} : Seen).add 14) nd
    rw [q]
    exact Fails.more (n := 1) ⟨_, ⟨rfl, rfl⟩, rfl⟩ (by omega)
  · rw [search2_is, if_pos (by simp; omega)]
    exact Fails.more (n := 1) ⟨_, ⟨rfl, rfl⟩, rfl⟩ (by omega)
end
end Mine
end
section
open PySem PySem.Sre PySem.Builtin PySem.Builtin.Re
set_option maxHeartbeats 1000000
namespace Mine
section
variable {M : Model} {A : Around} {E : Value → Shared → Prop} {s : Shared}
theorem drive {Q : Sre.M → Shared → Prop} {m' : Sre.M} (hq : Q m' s) : ∀ (turns n : Nat) (m : Sre.M), Ends n m m' → n < turns → wpAny M A (reDrive turns m) Q E s
  | 0, n, _, _, h => by omega
  | turns + 1, n, m, h, hn => by
    show wpAny M A (if (m.runFor 4).outcome.isSome = true then pure (m.runFor 4) else (do rule "sre.turn"; reDrive turns (m.runFor 4))) Q E s
    by_cases hd : (m.runFor 4).outcome.isSome = true
    · rw [if_pos hd]
      have : m.runFor 4 = m' := by
        have h1 := (h.more (k := 4 + n) (by omega)).1
        rw [runFor_add, runFor_done hd] at h1; exact h1
      rw [this]; exact wpAny_pure hq
    · rw [if_neg hd]
      have h4 : 4 < n := by
        by_cases q : n ≤ 4
        · have := h.more q
          rw [this.1] at hd; exact absurd this.2 hd
        · omega
      obtain ⟨k, rfl⟩ := Nat.le.dest (Nat.le_of_lt h4)
      refine wpAny_bind (wpAny_rule ?_)
      exact drive hq turns k _ ⟨by rw [← runFor_add]; exact h.1, h.2⟩ (by omega)
theorem wp_says {f : Nat → PUnit → Sem (ForInStep PUnit)} (hf : ∀ i (Q : ForInStep PUnit → Shared → Prop), Q (.yield ⟨⟩) s → wpAny M A (f i ⟨⟩) Q E s) {Q : PUnit → Shared → Prop} (hq : Q ⟨⟩ s) : ∀ l : List Nat, wpAny M A (forIn l PUnit.unit f) Q E s
  | [] => by rw [List.forIn_nil]; exact wpAny_pure hq
  | i :: l => by
    rw [List.forIn_cons]
    exact wpAny_bind (hf i _ (wp_says hf hq l))
theorem toEnd {m m' : Sre.M} {n : Nat} {Q : Option Sre.M → Shared → Prop} (h : Ends n m m') (hn : n < 2 ^ 64)
    (hq : wpAny M A (match m'.outcome with
      | some .matched => pure (some m')
      | some .failed => pure none
      | some (.stuck why) => unsupported s!"_sre:{why}"
      | none => unsupported "internal:sre:no-outcome") Q E s) : wpAny M A (reRunToEnd m) Q E s := by
  unfold reRunToEnd
  refine wpAny_bind (drive (m' := m') ?_ _ _ _ h hn)
  refine wpAny_bind (wp_says (fun i Q hQ => ?_) ?_ _)
  · split
    · exact wpAny_bind (wpAny_rule (wpAny_pure hQ))
    · exact wpAny_pure hQ
  · exact hq
theorem toEnd_found {m : Sre.M} {n b e : Nat} {Q : Option Sre.M → Shared → Prop} (h : Found n m b e) (hn : n < 2 ^ 64) (hq : ∀ m' : Sre.M, m'.start = b → m'.handed = e → Q (some m') s) : wpAny M A (reRunToEnd m) Q E s := by
  obtain ⟨m', h1, h2, h3, h4⟩ := h
  refine toEnd h1 hn ?_
  rw [h2]; exact wpAny_pure (hq m' h3 h4)
theorem toEnd_fails {m : Sre.M} {n : Nat} {Q : Option Sre.M → Shared → Prop} (h : Fails n m) (hn : n < 2 ^ 64) (hq : Q none s) : wpAny M A (reRunToEnd m) Q E s := by
  obtain ⟨m', h1, h2⟩ := h
  refine toEnd h1 hn ?_
  rw [h2]; exact wpAny_pure hq

/-- a compiled pattern without groups over strs, and its code -/
noncomputable def IsPat (h : Heap) (a : Addr) (code : Array Nat) : Prop := ∃ c p fl t vs n, h.get? a = some ⟨.type "re.Pattern", none, .fields #[p, .int fl t, .int 0 0, .none, .none, .ref c, .int 0 0], #[]⟩ ∧ h.get? c = some ⟨.type "tuple", none, .seq vs n, #[]⟩ ∧ (vs.map reRawOf).map (·.toNat) = code
theorem IsPat.keeps {h h' : Heap} {a : Addr} {code : Array Nat} (x : IsPat h a code) (k : ∀ b o, h.get? b = some o → h'.get? b = some o) : IsPat h' a code :=
  let ⟨c, p, fl, t, vs, n, h1, h2, h3⟩ := x; ⟨c, p, fl, t, vs, n, k _ _ h1, k _ _ h2, h3⟩

theorem wholeTarget {a : Addr} {code : Array Nat} {x : Str} {t : Tok} {Q : ReTarget → Shared → Prop} (P : IsPat s.heap a code) (hq : Q { pattern := .ref a, string := .str x t, code, text := x.cps, kind := 0, groups := 0, pos := 0, lim := x.cps.size } s) :
    wpAny M A (reWholeTarget (.ref a) (.str x t)) Q E s := by
  obtain ⟨c, p, fl, u, vs, n, h1, h2, rfl⟩ := P
  unfold reWholeTarget
  refine wpAny_bind (wpAny_fieldsOf h1 rfl ?_)
  show wpAny M A (do
    let (text, kind) ← reTextOf (.str x t)
    _) Q E s
  refine wpAny_bind (m := reTextOf (.str x t)) ?_
  show wpAny M A (pure (x.cps, 0)) _ E s
  refine wpAny_pure ?_
  show wpAny M A (do
    let cs ← reRawItems (.ref c)
    pure _) Q E s
  refine wpAny_bind ?_
  unfold reRawItems
  refine wpAny_bind (wpAny_seqItems h2 rfl ?_)
  exact wpAny_pure (wpAny_pure hq)
end

theorem entry_loop : entryFor table "re.Pattern.sub.loop" = some Builtin.«re.Pattern.sub.loop» := entryFor_of_tree (by kernel_rfl)
theorem entry_sub : entryFor table "re.Pattern.sub" = some Builtin.«re.Pattern.sub» := entryFor_of_tree (by kernel_rfl)
theorem slot_sub : Slot "re.Pattern" "sub" "re.Pattern.sub" :=
  .of (owner := "re.Pattern") (n := "sub") (by rw [typeLookup_type, builtinLookup_eq_fast]; kernel_rfl) (by decide +kernel) (by decide +kernel) (by decide +kernel)
    (by first | exact .inl (by decide +kernel) | exact .inr (by decide +kernel)) (by rw [isSubtype_type]; kernel_rfl)
theorem type_sub : typeOf (.builtin "re.Pattern.sub") = pure (.type "method_descriptor") := by show builtinType _ = _; rw [builtinType_eq_fast]; kernel_rfl
theorem plain_pat : PlainAttrs "re.Pattern" :=
  ⟨⟨"object.__getattribute__", by rw [typeLookup_type, builtinLookup_eq_fast]; kernel_rfl, by decide +kernel⟩, by rw [typeLookup_type, builtinLookup_eq_fast]; kernel_rfl⟩
theorem owner_pat : Manifest.owners.lookup (String.ofList ['n', 'r', 'e', 't', 't', 'a', 'P', '.', 'e', 'r'].reverse) = some Manifest.sig_re_Pattern := by kernel_rfl
theorem args_sub (a b c : Value) : argsOk "re.Pattern.sub" ⟨[a, b, c], []⟩ := by
  unfold argsOk
  rw [signature?_of (id := "re.Pattern.sub") (n := ['b', 'u', 's']) (o := ['n', 'r', 'e', 't', 't', 'a', 'P', '.', 'e', 'r']) (by kernel_rfl) owner_pat]; kernel_rfl
theorem noCall : typeLookup (.type "str") "__call__" = pure none := by rw [typeLookup_type, builtinLookup_eq_fast]; kernel_rfl

section
variable {prog : Program} {w : World} {A : Around} {E : Value → Shared → Prop} {s : Shared}

/-- what a search from p on comes to -/
inductive Srch (code : Array Nat) (text : Array Nat) : Nat → Option (Nat × Nat) → Prop
  | found {p b e n : Nat} : p ≤ b → b < e → e ≤ text.size → n < 2 ^ 64 → Found n (forSearch code text 0 p text.size false) b e → Srch code text p (some (b, e))
  | fails {p n : Nat} : n < 2 ^ 64 → Fails n (forSearch code text 0 p text.size false) → Srch code text p none

/-- what stands behind p when all is replaced -/
inductive Subs (code : Array Nat) (rp text : Array Nat) : Nat → List Nat → Prop
  | done {p : Nat} : p ≤ text.size → Srch code text p none → Subs code rp text p (text.extract p text.size).toList
  | more {p b e : Nat} {r : List Nat} : Srch code text p (some (b, e)) → Subs code rp text e r → Subs code rp text p ((text.extract p b).toList ++ rp.toList ++ r)

noncomputable def lst (ps : List (Str × Tok)) : List Nat := ps.flatMap fun q => q.1.cps.toList
theorem lst_snoc (ps : List (Str × Tok)) (q : Str × Tok) : lst (ps ++ [q]) = lst ps ++ q.1.cps.toList := by simp [lst]

theorem glue_empty : ∀ l : List Str, (Txt.join ⟨#[]⟩ l).cps.toList = l.flatMap fun x => x.cps.toList := by
  intro l
  have go : ∀ (r : List Str) (a : Array Nat), (r.foldl (fun acc p => acc ++ (#[] : Array Nat) ++ p.cps) a).toList = a.toList ++ r.flatMap fun x => x.cps.toList := by
    intro r
    induction r with
    | nil => intro a; simp
    | cons x r ih => intro a; rw [List.foldl_cons, ih]; simp
  cases l with
  | nil => rfl
  | cons x r =>
    show (r.foldl (fun acc p => acc ++ (#[] : Array Nat) ++ p.cps) x.cps).toList = _
    rw [go]; simp

theorem strValues_snoc (ps : List (Str × Tok)) (q : Str × Tok) : (strValues ps).toArray.push (.str q.1 q.2) = (strValues (ps ++ [q])).toArray := by simp [strValues]

noncomputable def subArgs (a l : Addr) (x rp : Str) (t u : Tok) (n p : Int) : Args := ⟨[.ref a, .str x t, .str rp u, rawInt 0, rawInt 0, rawInt n, rawInt p, rawInt p, .bool false, .ref l, .bool false], []⟩

theorem wp_mkStr {x : Str} {Q : Value → Shared → Prop} (h : x.length ≤ sizeLine) (hq : Q (.str x s.toks) { s with toks := s.toks + 1 }) : wpAny (model prog w) A (mkStr x) Q E s := by
  unfold mkStr
  rw [if_neg (by omega)]
  exact fun _ _ _ => hq

theorem toNat_nat (p : Nat) : (p : Int).toNat = p := by simp
theorem get_upd {h : Heap} {l : Addr} {ps : List (Str × Tok)} {k : Nat} (q : Str × Tok) (hl : h.get? l = some ⟨.type "list", none, .seq (strValues ps).toArray k, #[]⟩) :
    (h.update l (Obj.mapSeq (·.push (.str q.1 q.2)))).get? l = some ⟨.type "list", none, .seq (strValues (ps ++ [q])).toArray (k + 1), #[]⟩ := by
  rw [Heap.get?_update_self _ hl rfl]
  simp [Obj.mapSeq, strValues]

/-- pushing one more piece -/
theorem wp_push {l : Addr} {ps : List (Str × Tok)} {k : Nat} {q : Str × Tok} {Q : Unit → Shared → Prop} (hl : s.heap.get? l = some ⟨.type "list", none, .seq (strValues ps).toArray k, #[]⟩) (hz : ps.length ≤ 10000)
    (hq : ∀ h', h'.get? l = some ⟨.type "list", none, .seq (strValues (ps ++ [q])).toArray (k + 1), #[]⟩ → (∀ b, b ≠ l → h'.get? b = s.heap.get? b) → h'.objs.size = s.heap.objs.size → Q () { s with heap := h' }) :
    wpAny (model prog w) A (updateSeq l (·.push (.str q.1 q.2))) Q E s := by
  have e : (strValues ps).toArray.size ≤ sizeLine := by simp [strValues, sizeLine_eq]; omega
  refine wpAny_updateSeq hl rfl (hq _ (get_upd q hl) (fun b hb => Heap.get?_update_ne _ _ _ _ hb) (Heap.size_update ..)) e ?_
  simp [strValues, sizeLine_eq]; omega

end
end Mine
end
section
open PySem PySem.Sre PySem.Builtin PySem.Builtin.Re
set_option maxHeartbeats 1000000
namespace Mine
section
variable {prog : Program} {w : World} {A : Around} {E : Value → Shared → Prop}
theorem codeAny_entry {id : String} {args : Args} {b : Builtin} {R : Result → Shared → Prop} {s : Shared} (hb : entryFor table id = some b)
    (h : wpAny (model prog w) (A.under (.builtin id args)) (b args) (fun fin s' => match fin with | .done f => R (.ok f) s' | .again c' => c'.quiet = true ∧ codeAny (model prog w) A c' R s') (fun e s' => R (.error e) s') s) :
    codeAny (model prog w) A (.builtin id args) R s := by
  refine codeAny_of_tree ?_
  show wpAny _ _ (match entryFor table id with | some b => b args | none => unsupported ((withoutEnding? id "#data").getD id)) _ _ s
  rw [hb]; exact h

theorem IsPat.upd {h h' : Heap} {a l : Addr} {code : Array Nat} {its : Array Value} {k : Nat} (P : IsPat h a code) (hl : h.get? l = some ⟨.type "list", none, .seq its k, #[]⟩) (hk : ∀ b, b ≠ l → h'.get? b = h.get? b) : IsPat h' a code := by
  obtain ⟨c, p, fl, t, vs, n, h1, h2, h3⟩ := P
  refine ⟨c, p, fl, t, vs, n, ?_, ?_, h3⟩
  · rw [hk a (fun e => by rw [e, hl] at h1; have := congrArg Obj.cls (Option.some.inj h1); simp at this)]; exact h1
  · rw [hk c (fun e => by rw [e, hl] at h2; have := congrArg Obj.cls (Option.some.inj h2); simp at this)]; exact h2

theorem joinOk_lst {ps : List (Str × Tok)} (h : (lst ps).length ≤ 100000) : JoinOk ⟨#[]⟩ (ps.map (·.1)) = true := by
  have go : ∀ (l : List (Str × Tok)) (a : Nat), (l.map (·.1)).foldl (fun a x => a + x.length + (⟨#[]⟩ : Str).length) a = a + (lst l).length := by
    intro l
    induction l with
    | nil => intro a; rfl
    | cons x l ih =>
      intro a
      rw [List.map_cons, List.foldl_cons, ih]
      show a + x.1.cps.size + 0 + _ = _
      simp [lst]; omega
  unfold JoinOk Builtin.Str.tooLong
  rw [List.foldl_toArray, go, sizeLine_eq]
  simp; omega
theorem quiet_loop (args : Args) : (Code.builtin "re.Pattern.sub.loop" args).quiet = true := plainId_quiet (by decide +kernel) args

theorem sub_loop {a l : Addr} {code : Array Nat} {x rp : Str} {t u : Tok} {R : Result → Shared → Prop} (hx : x.cps.size ≤ 1000) (hrp : rp.cps.size ≤ 10) {p : Nat} {r : List Nat} (S : Subs code rp.cps x.cps p r) :
    ∀ {n : Int} {ps : List (Str × Tok)} {k : Nat} {s : Shared}, p ≤ x.cps.size → ps.length ≤ 2 * p → (lst ps).length ≤ 11 * p → IsPat s.heap a code → s.heap.get? l = some ⟨.type "list", none, .seq (strValues ps).toArray k, #[]⟩ →
    (∀ y t' h' tk', y.cps.toList = lst ps ++ r → (∀ b, b ≠ l → h'.get? b = s.heap.get? b) → h'.objs.size = s.heap.objs.size → R (.ok (.ret (.str y t'))) { s with heap := h', toks := tk' }) →
    codeAny (model prog w) A (.builtin "re.Pattern.sub.loop" (subArgs a l x rp t u n p)) R s := by
  induction S with
  | done hp srch =>
    rename_i p
    intro n ps k s hpx hl1 hl2 P hl ret
    refine codeAny_entry entry_loop ?_
    dsimp only [Builtin.«re.Pattern.sub.loop», subArgs, rawInt]
    refine wpAny_bind (wholeTarget P ?_)
    dsimp only
    rw [if_pos (show ((0 : Int) == 0) = true from rfl)]
    refine wpAny_bind (m := reLiteralCannotBeTurned (.str rp u)) (wpAny_pure ?_)
    refine wpAny_bind ?_
    rw [if_neg (by simp)]
    show wpAny _ _ (reRunToEnd (forSearch code x.cps 0 p x.cps.size false)) _ _ s
    cases srch with
    | fails hn hf =>
      refine toEnd_fails hf hn ?_
      dsimp only
      have fin : ∀ (ps' : List (Str × Tok)) (k' : Nat) (s' : Shared), s'.heap.get? l = some ⟨.type "list", none, .seq (strValues ps').toArray k', #[]⟩ → ps'.length ≤ 2 * p + 1 → lst ps' = lst ps ++ (x.cps.extract p x.cps.size).toList →
          (∀ b, b ≠ l → s'.heap.get? b = s.heap.get? b) → s'.heap.objs.size = s.heap.objs.size → (∃ tk h, s' = { s with heap := h, toks := tk }) →
          wpAny (model prog w) (A.under (.builtin "re.Pattern.sub.loop" (subArgs a l x rp t u n p))) (do
            let joiner ← reSlice x.cps 0 0 0
            let its ← seqItems? (.ref l)
            if (its.getD #[]).isEmpty = true then do
              let text ← pure joiner
              if false = true then do
                let v ← holding [text] do
                  let i ← mkInt n
                  newTuple [text, i]
                PySem.ret v
              else PySem.ret text
            else do
              let text ← call (.builtin (if ((0 : Nat) == 0) = true then "str.join" else "bytes.join")) [joiner, .ref l]
              if false = true then do
                let v ← holding [text] do
                  let i ← mkInt n
                  newTuple [text, i]
                PySem.ret v
              else PySem.ret text) (fun fin s' => match fin with | .done f => R (.ok f) s' | .again c' => c'.quiet = true ∧ codeAny (model prog w) A c' R s') (fun e s' => R (.error e) s') s' := by
        intro ps' k' s' hl' hlen hlst hk' hsz' ⟨tk, h, hs'⟩
        refine wpAny_bind (wp_mkStr (x := ⟨x.cps.extract 0 0⟩) (by show (x.cps.extract 0 0).size ≤ _; simp) ?_)
        refine wpAny_bind (wpAny_seqItems hl' rfl ?_)
        have e0 : (⟨x.cps.extract 0 0⟩ : Str) = ⟨#[]⟩ := by simp
        rw [e0]
        by_cases hemp : ps' = []
        · subst hemp
          rw [if_pos (by rfl)]
          refine wpAny_bind (wpAny_pure ?_)
          rw [if_neg (by simp)]
          refine wpAny_pure ?_
          subst hs'
          exact ret _ _ _ _ (by rw [← hlst]; rfl) hk' hsz'
        · rw [if_neg (by cases ps' with | nil => exact absurd rfl hemp | cons a b => simp [strValues])]
          have hfit : JoinOk ⟨#[]⟩ (ps'.map (·.1)) = true := by
            refine joinOk_lst ?_
            rw [hlst]
            simp only [List.length_append, Array.length_toList, Array.size_extract]
            omega
          rw [if_pos (show ((0 : Nat) == 0) = true from rfl)]
          refine wpAny_bind (SC.join (l := ps') ⟨_, hl', rfl, _, rfl⟩ rfl hfit fun t' tk' => ?_)
          rw [if_neg (by simp)]
          refine wpAny_pure ?_
          subst hs'
          refine ret _ _ _ _ ?_ hk' hsz'
          rw [glue_empty, ← hlst, lst, List.flatMap_map]
      by_cases hlt : p < x.cps.size
      · rw [if_pos (by simpa using hlt)]
        refine wpAny_bind (wp_mkStr (x := ⟨x.cps.extract p x.cps.size⟩) (by show (x.cps.extract _ _).size ≤ _; rw [sizeLine_eq]; simp; omega) ?_)
        refine wpAny_bind (wp_push (q := (⟨x.cps.extract p x.cps.size⟩, _)) hl (by omega) fun h' g1 g2 g3 => ?_)
        exact fin _ _ _ g1 (by simp; omega) (by rw [lst_snoc]) g2 g3 ⟨_, _, rfl⟩
      · rw [if_neg (by simpa using hlt)]
        have e : (x.cps.extract p x.cps.size).toList = [] := by simp; omega
        exact fin ps k s hl (by omega) (by rw [e, List.append_nil]) (fun _ _ => rfl) rfl ⟨_, _, rfl⟩
  | more srch S ih =>
    rename_i p b e r
    intro n ps k s hpx hl1 hl2 P hl ret
    refine codeAny_entry entry_loop ?_
    dsimp only [Builtin.«re.Pattern.sub.loop», subArgs, rawInt]
    refine wpAny_bind (wholeTarget P ?_)
    dsimp only
    rw [if_pos (show ((0 : Int) == 0) = true from rfl)]
    refine wpAny_bind (m := reLiteralCannotBeTurned (.str rp u)) (wpAny_pure ?_)
    refine wpAny_bind ?_
    rw [if_neg (by simp)]
    show wpAny _ _ (reRunToEnd (forSearch code x.cps 0 p x.cps.size false)) _ _ s
    cases srch with
    | found hpb hbe hel hn hf =>
      refine toEnd_found hf hn fun m' hs hh => ?_
      dsimp only
      rw [hs, hh]
      have ne : (e == b) = false := by simp; omega
      rw [ne]
      have fin : ∀ (ps' : List (Str × Tok)) (k' : Nat) (s' : Shared), s'.heap.get? l = some ⟨.type "list", none, .seq (strValues ps').toArray k', #[]⟩ → ps'.length ≤ 2 * p + 1 → lst ps' = lst ps ++ (x.cps.extract p b).toList →
          (∀ b, b ≠ l → s'.heap.get? b = s.heap.get? b) → s'.heap.objs.size = s.heap.objs.size → (∃ tk h, s' = { s with heap := h, toks := tk }) →
          wpAny (model prog w) (A.under (.builtin "re.Pattern.sub.loop" (subArgs a l x rp t u n p))) (do
            updateSeq l fun xs => xs.push (.str rp u)
            again (.builtin "re.Pattern.sub.loop" (subArgs a l x rp t u (n + 1) e))) (fun fin s' => match fin with | .done f => R (.ok f) s' | .again c' => c'.quiet = true ∧ codeAny (model prog w) A c' R s') (fun e s' => R (.error e) s') s' := by
        intro ps' k' s' hl' hlen hlst hk' hsz' ⟨tk, h, hs'⟩
        refine wpAny_bind (wp_push (q := (rp, u)) hl' (by omega) fun h' g1 g2 g3 => ?_)
        refine wpAny_pure ⟨quiet_loop _, ?_⟩
        subst hs'
        refine ih (n := n + 1) (ps := ps' ++ [(rp, u)]) hel (by rw [List.length_append, List.length_singleton]; omega) ?_ ?_ g1 fun y t' h2 tk' hy hk2 hsz2 => ?_
        · rw [lst_snoc, hlst]
          simp only [List.length_append, Array.length_toList, Array.size_extract]
          omega
        · exact P.upd hl fun c hc => (g2 c hc).trans (hk' c hc)
        · refine ret y t' h2 tk' ?_ (fun c hc => (hk2 c hc).trans ((g2 c hc).trans (hk' c hc))) (hsz2.trans (g3.trans hsz'))
          rw [hy, lst_snoc, hlst]; simp
      by_cases hlt : p < b
      · rw [if_pos (by simpa using hlt)]
        refine wpAny_bind (wp_mkStr (x := ⟨x.cps.extract p b⟩) (by show (x.cps.extract _ _).size ≤ _; rw [sizeLine_eq]; simp; omega) ?_)
        refine wpAny_bind (wp_push (q := (⟨x.cps.extract p b⟩, _)) hl (by omega) fun h' g1 g2 g3 => ?_)
        exact fin _ _ _ g1 (by simp; omega) (by rw [lst_snoc]) g2 g3 ⟨_, _, rfl⟩
      · rw [if_neg (by simpa using hlt)]
        have e' : (x.cps.extract p b).toList = [] := by simp; omega
        exact fin ps k s hl (by omega) (by rw [e', List.append_nil]) (fun _ _ => rfl) rfl ⟨_, _, rfl⟩

theorem named_sub (rp x : Value) : reNamed "re.Pattern.sub" "sub" ["repl", "string", "count"] 2 [rp, x] [] = pure [some rp, some x, none] := by kernel_rfl

theorem wp_sub {s : Shared} {a : Addr} {code : Array Nat} {x rp : Str} {t u : Tok} {r : List Nat} {Q : Value → Shared → Prop} (hx : x.cps.size ≤ 1000) (hrp : rp.cps.size ≤ 10) (h92 : rp.cps.contains 92 = false) (P : IsPat s.heap a code) (S : Subs code rp.cps x.cps 0 r)
    (ret : ∀ y t' h' tk', y.cps.toList = r → (∀ b o, s.heap.get? b = some o → h'.get? b = some o) → Q (.str y t') { s with heap := h', toks := tk' }) :
    wpAny (model prog w) A (call (.builtin "re.Pattern.sub") [.ref a, .str rp u, .str x t]) Q E s := by
  have hT : s.TypeIs (.ref a) "re.Pattern" := by
    obtain ⟨c, p, fl, t, vs, n, h1, h2, h3⟩ := P
    exact ⟨_, h1, rfl⟩
  refine wpAny_call (codeAny_call_builtin slot_sub.plain entry_sub (slot_sub.check _ _ _ _ _ _ _ _ hT (args_sub _ _ _) ?_))
  show wpAny _ _ (reSubstitute "re.Pattern.sub" "sub" false ⟨[.ref a, .str rp u, .str x t], []⟩) _ _ s
  unfold reSubstitute
  refine wpAny_bind (m := reNamed "re.Pattern.sub" "sub" ["repl", "string", "count"] 2 [.str rp u, .str x t] []) ?_
  rw [named_sub]
  refine wpAny_pure ?_
  refine wpAny_bind (m := (pure 0 : Sem Int)) (wpAny_pure ?_)
  refine wpAny_bind (m := specialOf (.str rp u) "__call__") (wpAny_specialOf (T := "str") rfl noCall ?_)
  refine wpAny_bind (m := asStr? (.str rp u)) (wpAny_pure ?_)
  refine wpAny_bind (m := (pure (!rp.cps.contains 92) : Sem Bool)) (wpAny_pure ?_)
  rw [h92]
  refine wpAny_bind (m := (pure (Value.str rp u, 0) : Sem (Value × Int))) (wpAny_pure ?_)
  refine wpAny_bind (m := holding [.str rp u] (reWholeTarget (.ref a) (.str x t))) (wpAny_holding (wholeTarget P ?_))
  refine wpAny_bind (m := newList []) (wpAny_newList ?_ (by simp))
  refine wpAny_pure ⟨quiet_loop _, ?_⟩
  have up : ∀ b o, s.heap.get? b = some o → (s.heap.push { cls := .type "list", data := .seq (([] : List Value)).toArray }).get? b = some o := fun b o e => Heap.get?_push_of_some _ e
  refine sub_loop (ps := []) (p := 0) (n := 0) (k := 0) hx hrp S (Nat.zero_le _) (Nat.zero_le _) (Nat.zero_le _) (P.keeps up) (Heap.get?_push_size _ rfl) fun y t' h' tk' hy hk hsz => ?_
  refine ret y t' h' tk' hy fun b o e => ?_
  rw [hk b (Nat.ne_of_lt (Heap.lt_size e))]
  exact up b o e
end
end Mine
end
section
open PySem PySem.Sre PySem.Builtin PySem.Builtin.Re
set_option maxHeartbeats 1000000
namespace Mine
/-- every end of a line as return and feed; the flag: a return stands right ahead -/
noncomputable def nrm : Bool → List Nat → List Nat
  | _, [] => []
  | b, c :: t => if c = 10 then (if b then nrm false t else 13 :: 10 :: nrm false t) else if c = 13 then 13 :: 10 :: nrm true t else c :: nrm false t
/-- a dot more ahead of each line that begins with one; the flag: a line begins here -/
noncomputable def dots : Bool → List Nat → List Nat
  | _, [] => []
  | b, c :: t => if b = true ∧ c = 46 then 46 :: 46 :: dots false t else c :: dots (decide (c = 10)) t
noncomputable def quoteL (l : List Nat) : List Nat := dots true (nrm false l)

section
variable {text : Array Nat}
theorem drop_cons {p : Nat} (h : p < text.size) : text.toList.drop p = text.getD p 0 :: text.toList.drop (p + 1) := by
  rw [List.drop_eq_getElem_cons (by simpa using h)]
  simp [h]
theorem ext_step {p b : Nat} (h : p < b) (hb : b ≤ text.size) : (text.extract p b).toList = text.getD p 0 :: (text.extract (p + 1) b).toList := by
  rw [Array.toList_extract, Array.toList_extract, List.extract_eq_take_drop, List.extract_eq_take_drop, drop_cons (by omega), show b - p = (b - (p + 1)) + 1 by omega, List.take_succ_cons]
theorem ext_nil {p : Nat} : (text.extract p p).toList = [] := by simp
theorem drop_ext {p : Nat} : text.toList.drop p = (text.extract p text.size).toList := by
  rw [Array.toList_extract, List.extract_eq_take_drop]
  rw [List.take_of_length_le (by simp)]

theorem nrm_run : ∀ (k p : Nat), p + k ≤ text.size → NoEnd text p (p + k) → nrm false (text.toList.drop p) = (text.extract p (p + k)).toList ++ nrm false (text.toList.drop (p + k))
  | 0, p, _, _ => by simp
  | k + 1, p, h, nd => by
    have z := nd p (Nat.le_refl _) (by omega)
    rw [drop_cons (by omega), ext_step (b := p + (k + 1)) (by omega) h]
    show (if text.getD p 0 = 10 then _ else if text.getD p 0 = 13 then _ else _) = _
    rw [if_neg z.1, if_neg z.2, nrm_run k (p + 1) (by omega) (fun j h1 h2 => nd j (by omega) (by omega))]
    rw [show p + 1 + k = p + (k + 1) by omega]; rfl
theorem firstEnd : ∀ (k p : Nat), p + k = text.size → NoEnd text p text.size ∨ ∃ b, p ≤ b ∧ b < text.size ∧ NoEnd text p b ∧ (text.getD b 0 = 10 ∨ text.getD b 0 = 13)
  | 0, p, h => .inl fun j h1 h2 => by omega
  | k + 1, p, h => by
    by_cases hc : text.getD p 0 = 10 ∨ text.getD p 0 = 13
    · exact .inr ⟨p, Nat.le_refl _, by omega, fun j h1 h2 => by omega, hc⟩
    · have z : text.getD p 0 ≠ 10 ∧ text.getD p 0 ≠ 13 := ⟨fun e => hc (.inl e), fun e => hc (.inr e)⟩
      rcases firstEnd k (p + 1) (by omega) with nd | ⟨b, h1, h2, nd, hb⟩
      · exact .inl fun j g1 g2 => by
          by_cases hj : j = p
          · subst hj; exact z
          · exact nd j (by omega) g2
      · refine .inr ⟨b, by omega, h2, fun j g1 g2 => ?_, hb⟩
        by_cases hj : j = p
        · subst hj; exact z
        · exact nd j (by omega) g2
theorem subs2 (hz : text.size ≤ 1000) : ∀ (k p : Nat), p + k = text.size → Subs code2 #[13, 10] text p (nrm false (text.toList.drop p)) := by
  intro k
  induction k using Nat.strongRecOn with
  | ind k ih =>
    intro p hp
    rcases firstEnd k p hp with nd | ⟨b, h1, h2, nd, hb⟩
    · have e := nrm_run (text := text) k p (by omega) (by rw [hp]; exact nd)
      rw [e, hp]
      have : text.toList.drop text.size = [] := by simp
      rw [this]
      show Subs code2 _ text p ((text.extract p text.size).toList ++ [])
      rw [List.append_nil]
      exact .done (by omega) (.fails (n := 40) (by omega) (search2_fails nd))
    · obtain ⟨j, rfl⟩ := Nat.le.dest h1
      rw [nrm_run j p (by omega) nd, drop_cons h2]
      by_cases hlf : text.getD (p + j) 0 = 10
      · rw [hlf]
        show Subs code2 _ text p (_ ++ 13 :: 10 :: nrm false (text.toList.drop (p + j + 1)))
        have := Subs.more (rp := #[13, 10]) (.found h1 (Nat.lt_succ_self _) (by omega) (n := 40) (by omega) (search2_lf h1 nd h2 hlf)) (ih (text.size - (p + j + 1)) (by omega) (p + j + 1) (by omega))
        simpa using this
      · have hcr : text.getD (p + j) 0 = 13 := hb.resolve_left hlf
        rw [hcr]
        show Subs code2 _ text p (_ ++ 13 :: 10 :: nrm true (text.toList.drop (p + j + 1)))
        by_cases hn : p + j + 1 < text.size ∧ text.getD (p + j + 1) 0 = 10
        · rw [drop_cons hn.1, hn.2]
          show Subs code2 _ text p (_ ++ 13 :: 10 :: nrm false (text.toList.drop (p + j + 2)))
          have := Subs.more (rp := #[13, 10]) (.found h1 (by omega) (by omega) (n := 40) (by omega) (search2_crlf h1 nd h2 hcr hn.1 hn.2)) (ih (text.size - (p + j + 2)) (by omega) (p + j + 2) (by omega))
          simpa using this
        · have e : nrm true (text.toList.drop (p + j + 1)) = nrm false (text.toList.drop (p + j + 1)) := by
            by_cases hl : p + j + 1 < text.size
            · rw [drop_cons hl]
              have : ¬ text.getD (p + j + 1) 0 = 10 := fun q => hn ⟨hl, q⟩
              show (if text.getD (p + j + 1) 0 = 10 then _ else _) = (if text.getD (p + j + 1) 0 = 10 then _ else _)
              rw [if_neg this, if_neg this]
            · rw [List.drop_eq_nil_of_le (by simp; omega)]; rfl
          rw [e]
          have := Subs.more (rp := #[13, 10]) (.found h1 (Nat.lt_succ_self _) (by omega) (n := 40) (by omega) (search2_cr h1 nd h2 hcr hn)) (ih (text.size - (p + j + 1)) (by omega) (p + j + 1) (by omega))
          simpa using this

noncomputable def flag (text : Array Nat) (p : Nat) : Bool := decide (p = 0 ∨ text.getD (p - 1) 0 = 10)
theorem flag_succ {p : Nat} : flag text (p + 1) = decide (text.getD p 0 = 10) := by simp [flag]
theorem dots_run : ∀ (k p : Nat), p + k ≤ text.size → NoDot text p (p + k) → dots (flag text p) (text.toList.drop p) = (text.extract p (p + k)).toList ++ dots (flag text (p + k)) (text.toList.drop (p + k))
  | 0, p, _, _ => by simp
  | k + 1, p, h, nd => by
    have z := nd p (Nat.le_refl _) (by omega)
    rw [drop_cons (by omega), ext_step (b := p + (k + 1)) (by omega) h]
    show (if flag text p = true ∧ text.getD p 0 = 46 then _ else _) = _
    rw [if_neg (fun q => z ⟨of_decide_eq_true q.1, q.2⟩), ← flag_succ, dots_run k (p + 1) (by omega) (fun j h1 h2 => nd j (by omega) (by omega))]
    rw [show p + 1 + k = p + (k + 1) by omega]; rfl
theorem firstDot : ∀ (k p : Nat), p + k = text.size → NoDot text p text.size ∨ ∃ b, p ≤ b ∧ b < text.size ∧ NoDot text p b ∧ (b = 0 ∨ text.getD (b - 1) 0 = 10) ∧ text.getD b 0 = 46
  | 0, p, h => .inl fun j h1 h2 => by omega
  | k + 1, p, h => by
    by_cases hc : (p = 0 ∨ text.getD (p - 1) 0 = 10) ∧ text.getD p 0 = 46
    · exact .inr ⟨p, Nat.le_refl _, by omega, fun j h1 h2 => by omega, hc⟩
    · rcases firstDot k (p + 1) (by omega) with nd | ⟨b, h1, h2, nd, hb⟩
      · exact .inl fun j g1 g2 => by
          by_cases hj : j = p
          · subst hj; exact hc
          · exact nd j (by omega) g2
      · refine .inr ⟨b, by omega, h2, fun j g1 g2 => ?_, hb⟩
        by_cases hj : j = p
        · subst hj; exact hc
        · exact nd j (by omega) g2
theorem subs1 (hz : text.size ≤ 1000) : ∀ (k p : Nat), p + k = text.size → Subs code1 #[46, 46] text p (dots (flag text p) (text.toList.drop p)) := by
  intro k
  induction k using Nat.strongRecOn with
  | ind k ih =>
    intro p hp
    rcases firstDot k p hp with nd | ⟨b, h1, h2, nd, hb0, hb1⟩
    · have e := dots_run (text := text) k p (by omega) (by rw [hp]; exact nd)
      rw [e, hp]
      have : text.toList.drop text.size = [] := by simp
      rw [this]
      show Subs code1 _ text p ((text.extract p text.size).toList ++ [])
      rw [List.append_nil]
      exact .done (by omega) (.fails (n := 3 * text.size + 20) (by omega) (search1_fails (by omega) nd))
    · obtain ⟨j, rfl⟩ := Nat.le.dest h1
      rw [dots_run j p (by omega) nd, drop_cons h2, hb1]
      have hf : flag text (p + j) = true := decide_eq_true hb0
      rw [hf]
      show Subs code1 _ text p (_ ++ 46 :: 46 :: dots false (text.toList.drop (p + j + 1)))
      have e : false = flag text (p + j + 1) := by rw [flag_succ, hb1]; rfl
      rw [e]
      have := Subs.more (rp := #[46, 46]) (.found h1 (Nat.lt_succ_self _) (by omega) (n := 3 * text.size + 20) (by omega) (search1_found h1 h2 hb0 hb1 nd)) (ih (text.size - (p + j + 1)) (by omega) (p + j + 1) (by omega))
      simpa using this
end

theorem nrm_len : ∀ (l : List Nat) (b : Bool), (nrm b l).length ≤ 2 * l.length
  | [], _ => Nat.le_refl _
  | c :: t, b => by
    have h1 := nrm_len t false
    have h2 := nrm_len t true
    unfold nrm
    repeat' split
    all_goals simp only [List.length_cons]; omega

section
variable {prog : Program} {w : World} {A : Around} {E : Value → Shared → Prop}
theorem wp_sub2 {s : Shared} {a : Addr} {x rp : Str} {t u : Tok} {Q : Value → Shared → Prop} (hr : rp.cps = #[13, 10]) (hx : x.cps.size ≤ 1000) (P : IsPat s.heap a code2)
    (ret : ∀ y t' h' tk', y.cps.toList = nrm false x.cps.toList → (∀ b o, s.heap.get? b = some o → h'.get? b = some o) → Q (.str y t') { s with heap := h', toks := tk' }) :
    wpAny (model prog w) A (call (.builtin "re.Pattern.sub") [.ref a, .str rp u, .str x t]) Q E s :=
  wp_sub hx (by rw [hr]; decide) (by rw [hr]; decide +kernel) P (by have := subs2 hx x.cps.size 0 (by omega); rw [hr]; exact this) ret
theorem wp_sub1 {s : Shared} {a : Addr} {x rp : Str} {t u : Tok} {Q : Value → Shared → Prop} (hr : rp.cps = #[46, 46]) (hx : x.cps.size ≤ 1000) (P : IsPat s.heap a code1)
    (ret : ∀ y t' h' tk', y.cps.toList = dots true x.cps.toList → (∀ b o, s.heap.get? b = some o → h'.get? b = some o) → Q (.str y t') { s with heap := h', toks := tk' }) :
    wpAny (model prog w) A (call (.builtin "re.Pattern.sub") [.ref a, .str rp u, .str x t]) Q E s :=
  wp_sub hx (by rw [hr]; decide) (by rw [hr]; decide +kernel) P (by have := subs1 hx x.cps.size 0 (by omega); rw [hr]; exact this) ret
end
end Mine
end
section
open PySem PySem.W PyProof.Rows PySem.Calls
set_option maxHeartbeats 4000000
namespace Mine
theorem pat1 {w : World} {h : Heap} (X : (Mine.hd.heap_1 w.params).In h) : IsPat h 43 code1 :=
  ⟨42, .str (Str.ofString "(?m)^\\.") 292, 40, 305, #[.int 14 0, .int 4 0, .int 0 0, .int 1 0, .int 1 0, .int 6 0, .int 1 0, .int 16 0, .int 46 0, .int 1 0], 0, X 43 _ (by kernel_rfl), X 42 _ (by kernel_rfl), by decide +kernel⟩
theorem pat2 {w : World} {h : Heap} (X : (Mine.hd.heap_1 w.params).In h) : IsPat h 48 code2 :=
  ⟨47, .str (Str.ofString "(?:\\r\\n|\\n|\\r(?!\\n))") 308, 32, 347, #[.int 14 0, .int 9 0, .int 4 0, .int 1 0, .int 2 0, .int 16 0, .int 10 0, .int 16 0, .int 13 0, .int 0 0, .int 7 0, .int 7 0, .int 16 0, .int 13 0, .int 16 0, .int 10 0, .int 15 0, .int 18 0, .int 5 0, .int 16 0, .int 10 0, .int 15 0, .int 13 0, .int 11 0, .int 16 0, .int 13 0, .int 5 0, .int 5 0, .int 0 0, .int 16 0, .int 10 0, .int 1 0, .int 15 0, .int 2 0, .int 0 0, .int 1 0], 0, X 48 _ (by kernel_rfl), X 47 _ (by kernel_rfl), by decide +kernel⟩
section
variable {M : Model} {A : Around} {E : Value → Shared → Prop} {s : Shared} {h₀ : Heap} {L : Addr} {m : Str → Option Value}
theorem gm_pat {a : Addr} {code : Array Nat} {pl : Sem Bool} {Q : Value × List Value → Shared → Prop} (F : Fr h₀ L s.heap m) (P : IsPat h₀ a code) (h : Q (.builtin "re.Pattern.sub", [.ref a]) s) : wpAny M A (getMethod (.ref a) (PySem.Str.ofString "sub") pl) Q E s := by
  obtain ⟨c, p, fl, t, vs, n, h1, h2, h3⟩ := P
  exact getMethod_builtin (T := "re.Pattern") ⟨_, F.keep _ _ h1, rfl⟩ plain_pat slot_sub type_sub (fun b e => by cases e; exact ⟨_, F.keep _ _ h1, rfl⟩) h
end
noncomputable def nrmS (x : Str) : Str := ⟨(nrm false x.cps.toList).toArray⟩
noncomputable def dotS (x : Str) : Str := ⟨(dots true x.cps.toList).toArray⟩
theorem str_of_list {y : Str} {l : List Nat} (h : y.cps.toList = l) : y = ⟨l.toArray⟩ := by subst h; cases y; simp
section
variable {prog : Program} {w : World} {A : Around} {E : Value → Shared → Prop} {s : Shared} {h₀ : Heap} {L : Addr} {m : Str → Option Value} {news : List (Addr × Obj)} {Q : Value → Shared → Prop}
theorem call_sub2 {x : Str} {t u : Tok} (F : Fr h₀ L s.heap m) (N : News h₀ L s.heap news) (P : IsPat h₀ 48 code2) (hx : x.length ≤ 1000)
    (h : ∀ t' h' tk', Fr h₀ L h' m → News h₀ L h' news → Q (.str (nrmS x) t') { s with heap := h', toks := tk' }) :
    wpAny (model prog w) A (call (.builtin "re.Pattern.sub") [.ref 48, .str (PySem.Str.ofString "\r\n") u, .str x t]) Q E s :=
  wp_sub2 (by decide +kernel) hx (P.keeps F.keep) fun y t' h' tk' hy hk => by rw [str_of_list hy]; exact h t' h' tk' (F.keeps hk) (N.grown hk)
theorem call_sub1 {x : Str} {t u : Tok} (F : Fr h₀ L s.heap m) (N : News h₀ L s.heap news) (P : IsPat h₀ 43 code1) (hx : x.length ≤ 1000)
    (h : ∀ t' h' tk', Fr h₀ L h' m → News h₀ L h' news → Q (.str (dotS x) t') { s with heap := h', toks := tk' }) :
    wpAny (model prog w) A (call (.builtin "re.Pattern.sub") [.ref 43, .str (PySem.Str.ofString "..") u, .str x t]) Q E s :=
  wp_sub1 (by decide +kernel) hx (P.keeps F.keep) fun y t' h' tk' hy hk => by rw [str_of_list hy]; exact h t' h' tk' (F.keeps hk) (N.grown hk)
end
theorem nrmS_len {x : Str} (h : x.length ≤ 100) : (nrmS x).length ≤ 1000 := by
  have a := nrm_len x.cps.toList false
  have b : x.cps.toList.length = x.cps.size := Array.length_toList
  have c : x.cps.size ≤ 100 := h
  have d : (nrmS x).length = (nrm false x.cps.toList).length := by show (nrm false x.cps.toList).toArray.size = _; rw [List.size_toArray]
  omega
local macro_rules | `(tactic| walk_at "getMethod ref") => `(tactic| (k_here; (with_reducible show wpAny _ _ (getMethod (Value.ref _) (PySem.Str.ofString "sub") _) _ _ _); (refine gm_pat (by assumption) (by with_reducible assumption) ?_)))
local macro_rules | `(tactic| walk_at "call builtin:re.Pattern.sub") => `(tactic| (k_here; first
  | (refine call_sub2 (by k_asm) (by k_asm) (by with_reducible assumption) (by assumption) ?_; intro t' h' tk' F' N')
  | (refine call_sub1 (by k_asm) (by k_asm) (by with_reducible assumption) (by assumption) ?_; intro t' h' tk' F' N')))
section
variable {w : World} {mean : ExcName → Option Value} {mg mb : Str → Option Value} {base : Heap} {outer : List Env} {g : Heap} {gs : Array GenState} {dr : Drawn} {tk : Nat} {os : OsState} {Q E : Value → Shared → Prop}

theorem c_quote (C : Cx w mean mg mb 0 base outer g) (x : Str) (t : Tok) (h0 : x.length ≤ 100)
   (ret : ∀ t h' tk', Keeps g h' → Q (.str (dotS (nrmS x)) t) ⟨h', gs, dr, tk', os⟩) :
   wpAny (model Challenge.rw_ny0273_01.row.prog w) (AA 0 outer) (call (.ref 55) [.str x t]) Q E ⟨g, gs, dr, tk, os⟩ := by
  have X := C.X; revert X; k_fill; intro X
  have P1 := pat1 X
  have P2 := pat2 X
  have z1 := nrmS_len h0
  have z0 : x.length ≤ 1000 := by omega
  refine wpAny_call ?_
  refine' enter [(Str.ofString "data", .str x t)] [] C (List.forall_mem_nil _) ?ho ?hcd ?hb ?hl ?c1 ?c2 ?c3 ?c4 ?_
  k_dflt ((case ho => k_is); (case hcd => k_is); (case hb => exact BindsTo.of_eq rfl); (case c4 => decide); (case hl => exact locs rfl); (case c1 => exact rfl); (case c2 => exact rfl); (case c3 => exact rfl); k_whole; intro _ _ _ _ eg _ _ _ _ _; replace eg := (show _ = _ from eg); subst eg; (try dsimp only); (try k_fold))
  k_steps
  dsimp only
  exact ret _ _ _ (Fr.keep (by assumption))
end
end Mine
end
section
open PySem PySem.W PyProof.Rows
theorem Mine.anew5 {M : Model} {A : Around} {env : Env} {Q : Flow → Shared → Prop} {E : Value → Shared → Prop} {s : Shared} (h : wpAny M A (execs [] env) Q E s) : wpAny M A (execs [] env) Q E s := by first | (walk1; done) | exact h
end
section
open PySem PySem.W PyProof.Rows PySem.Calls PyProof.Rows.LCg
set_option maxHeartbeats 4000000
namespace Mine
local macro_rules | `(tactic| walk_at $s:str) => wk "S=eval ListComp" s
noncomputable def sentRow (r : Str) : Str := if Txt.slice r none (some 1) = Str.ofString "." then Str.ofString "." ++ r else r
noncomputable def SentInv (l : List (Str × Tok)) (i : Nat) (ys : List Value) (nw : List (Addr × Obj)) : Prop := nw = [] ∧ ∃ q : List (Str × Tok), ys = strValues q ∧ q.map (·.1) = (l.take i).map fun p => sentRow p.1
theorem SentInv.step {l : List (Str × Tok)} {i : Nat} {q : List (Str × Tok)} {r y : Str} {t u : Tok} (hq : q.map (·.1) = (l.take i).map fun p => sentRow p.1) (hp : l[i]? = some (r, t)) (hy : y = sentRow r) : SentInv l (i + 1) (strValues q ++ [.str y u]) [] := by
  refine ⟨rfl, q ++ [(y, u)], by simp [strValues], ?_⟩
  rw [List.map_append, hq, List.take_add_one, hp, hy]; simp
theorem sentRow_len {r : Str} (h : r.length ≤ 2) : (sentRow r).length ≤ 3 := by
  unfold sentRow
  split
  · rw [Str.length_append]
    have : (Str.ofString ".").length = 1 := by decide +kernel
    omega
  · omega
theorem joinOk_few {sep : Str} {l : List Str} (hs : sep.length ≤ 2) (hl : l.length ≤ 4) (hz : ∀ x ∈ l, x.length ≤ 3) : JoinOk sep l = true := by
  have go : ∀ (l : List Str) (a : Nat), (∀ x ∈ l, x.length ≤ 3) → l.foldl (fun a x => a + x.length + sep.length) a ≤ a + 5 * l.length := by
    intro l
    induction l with
    | nil => intro a _; simp
    | cons x l ih =>
      intro a hz
      rw [List.foldl_cons]
      have h1 := ih (a + x.length + sep.length) fun y hy => hz y (List.mem_cons_of_mem _ hy)
      have h2 := hz x List.mem_cons_self
      rw [List.length_cons]; omega
  have := go l 0 hz
  unfold JoinOk Builtin.Str.tooLong
  rw [List.foldl_toArray, sizeLine_eq]
  simp; omega
theorem item_str {l : List (Str × Tok)} {i : Nat} {v : Value} (h : (strValues l).toArray[i]? = some v) : ∃ p : Str × Tok, l[i]? = some p ∧ v = .str p.1 p.2 := by
  simp only [strValues, List.getElem?_toArray, List.getElem?_map, Option.map_eq_some_iff] at h
  obtain ⟨p, h1, h2⟩ := h
  exact ⟨p, h1, h2.symm⟩
section
variable {w : World} {mean : ExcName → Option Value} {mg mb : Str → Option Value} {base : Heap} {outer : List Env} {g : Heap} {gs : Array GenState} {dr : Drawn} {tk : Nat} {os : OsState} {Q E : Value → Shared → Prop}
theorem c_sent (C : Cx w mean mg mb 0 base outer g) {ra : Addr} {l : List (Str × Tok)} (hr : g.IsList ra (strValues l).toArray) (hl : l.length ≤ 4) (hz : ∀ p ∈ l, p.1.length ≤ 2)
   (ret : ∀ t h' tk', Keeps g h' → Q (.str (Txt.join (Str.ofString "\r\n") (l.map fun p => sentRow p.1)) t) ⟨h', gs, dr, tk', os⟩) :
   wpAny (model Challenge.rw_ny0273_01.row.prog w) (AA 0 outer) (call (.ref 215) [.ref ra]) Q E ⟨g, gs, dr, tk, os⟩ := by
  have X := C.X; revert X; k_fill; intro X
  refine wpAny_call ?_
  refine' enter [(Str.ofString "rows", .ref ra)] [] C (List.forall_mem_nil _) ?ho ?hcd ?hb ?hl ?c1 ?c2 ?c3 ?c4 ?_
  k_dflt ((case ho => k_is); (case hcd => k_is); (case hb => exact BindsTo.of_eq rfl); (case c4 => decide); (case hl => exact locs rfl); (case c1 => exact rfl); (case c2 => exact rfl); (case c3 => exact rfl); k_whole; intro _ _ _ _ eg _ _ _ _ _; replace eg := (show _ = _ from eg); subst eg; (try dsimp only); (try k_fold))
  k_steps
  unfold NxStop
  rename Fr _ _ _ _ => F1
  rename News _ _ _ _ => N1
  refine LCg.ListComp_U F1 (by rfl) (by decide) (by rfl) (by decide) (by rfl) ?_
  walk1
  refine CompSrc.base rfl F1 N1 hr (by simp [strValues, sizeLine_eq]; omega) fun g1 => ?_
  refine comp_ind (SentInv l) l.length ?turn ?fin _ 0 [] _ (by simp [strValues]) ⟨rfl, [], rfl, by simp⟩
  case turn =>
    rintro i ys nw v I oI C' oC D m₂ h tk₂ E' hi ⟨rfl, q, rfl, hq⟩ hP hC hx F2 N2 off ne
    obtain ⟨⟨r, t⟩, hp, rfl⟩ := item_str hP
    have hz' : r.length ≤ 2 := hz _ (List.mem_of_getElem? hp)
    dsimp only at hx
    k_steps
    · rename (Txt.slice r none (some 1) == _) = true => q1
      exact SentInv.step hq hp (by rw [sentRow, if_pos (eq_of_beq q1)])
    · rename (Txt.slice r none (some 1) == _) = false => q1
      exact SentInv.step hq hp (by rw [sentRow, if_neg (ne_of_beq_false q1)])
  case fin => 
    rintro ys nw ⟨rfl, q, rfl, hq⟩
    intro D h tk₂ F2 N2 off
    dsimp only
    rw [List.take_length] at hq
    k_steps
    refine SC.join (l := q) ⟨_, (N2 _ List.mem_cons_self).1, rfl, _, rfl⟩ hq ?_ fun t' tk' => ?_
    · refine joinOk_few (by decide +kernel) (by simpa using hl) fun x hx => ?_
      obtain ⟨p, hp, rfl⟩ := List.mem_map.mp hx
      exact sentRow_len (hz p hp)
    · k_steps
      dsimp only
      exact ret _ _ _ F2.keep
end
end Mine
end
section
open PySem PySem.W PyProof.Rows
theorem Mine.anew6 {M : Model} {A : Around} {env : Env} {Q : Flow → Shared → Prop} {E : Value → Shared → Prop} {s : Shared} (h : wpAny M A (execs [] env) Q E s) : wpAny M A (execs [] env) Q E s := by first | (walk1; done) | exact h
end
section
open PySem PySem.W PyProof.Rows PySem.Calls PyProof.Rows.LCg
set_option maxHeartbeats 4000000
namespace Mine
local macro_rules | `(tactic| walk_at $s:str) => wk "S=eval ListComp;T=CompEnd|call builtin:sorted" s
/-- the tuples made so far -/
noncomputable def SizeInv (l : List (Str × Tok)) (i : Nat) (ys : List Value) (nw : List (Addr × Obj)) : Prop := ∃ ps : List Pr, ps.map (·.2.2) = l.take i ∧ ys = ps.map prRef ∧ ∀ p ∈ ps, prEnt p ∈ nw
noncomputable def OutInv (nw0 : List (Addr × Obj)) (xs : List Str) (perm : List Nat) (i : Nat) (ys : List Value) (nw : List (Addr × Obj)) : Prop := nw = nw0 ∧ ∃ q : List (Str × Tok), ys = strValues q ∧ q.map (·.1) = (perm.take i).map fun j => txt xs j
theorem OutInv.step {nw0 : List (Addr × Obj)} {xs : List Str} {perm : List Nat} {i j : Nat} {q : List (Str × Tok)} {y : Str} {u : Tok} (hq : q.map (·.1) = (perm.take i).map fun j => txt xs j) (hp : perm[i]? = some j) (hy : y = txt xs j) : OutInv nw0 xs perm (i + 1) (strValues q ++ [.str y u]) nw0 := by
  refine ⟨rfl, q ++ [(y, u)], by simp [strValues], ?_⟩
  rw [List.map_append, hq, List.take_add_one, hp, hy]; simp
noncomputable def sortOk (xs : List Str) : Bool := okT xs.length (sLt xs) (kas_sort xs.length) && ((runT (sLt xs) (kas_sort xs.length)).toList.all (· < xs.length) && (runT (sLt xs) (kas_sort xs.length)).toList.length == xs.length)
section
variable {w : World} {mean : ExcName → Option Value} {mg mb : Str → Option Value} {base : Heap} {outer : List Env} {g : Heap} {gs : Array GenState} {dr : Drawn} {tk : Nat} {os : OsState} {Q E : Value → Shared → Prop}
theorem c_size (C : Cx w mean mg mb 0 base outer g) {ta : Addr} {l : List (Str × Tok)} (hr : g.IsList ta (strValues l).toArray) (h2 : 2 ≤ l.length) (h64 : l.length < 64) (hz : ∀ p ∈ l, p.1.length ≤ 100) (hok : sortOk (l.map (·.1)) = true)
   (ret : ∀ D q c h' tk', Keeps g h' → g.get? D = none → h'.get? D = some (W.listOf (strValues q).toArray c) → q.map (·.1) = sortS (l.map (·.1)) → Q (.ref D) ⟨h', gs, dr, tk', os⟩) :
   wpAny (model Challenge.rw_ny0273_01.row.prog w) (AA 0 outer) (call (.ref 234) [.ref ta]) Q E ⟨g, gs, dr, tk, os⟩ := by
  have X := C.X; revert X; k_fill; intro X
  refine wpAny_call ?_
  refine' enter [(Str.ofString "texts", .ref ta)] [] C (List.forall_mem_nil _) ?ho ?hcd ?hb ?hl ?c1 ?c2 ?c3 ?c4 ?_
  k_dflt ((case ho => k_is); (case hcd => k_is); (case hb => exact BindsTo.of_eq rfl); (case c4 => decide); (case hl => exact locs rfl); (case c1 => exact rfl); (case c2 => exact rfl); (case c3 => exact rfl); k_whole; intro _ _ _ _ eg _ _ _ _ _; replace eg := (show _ = _ from eg); subst eg; (try dsimp only); (try k_fold))
  k_steps
  unfold NxStop
  rename Fr _ _ _ _ => F1
  rename News _ _ _ _ => N1
  refine LCp.ListComp_P F1 (by rfl) (by decide) (by rfl) (by decide) (by rfl) (by rfl) (by decide) ?_
  k_steps
  unfold NxStop
  refine LCg.ListComp_U F1 (by rfl) (by decide) (by rfl) (by decide) (by rfl) ?_
  walk1
  refine CompSrc.base rfl F1 N1 hr (by simp [strValues, sizeLine_eq]; omega) fun g1 => ?_
  refine comp_ind (SizeInv l) l.length ?turn ?fin _ 0 [] _ (by simp [strValues]) ⟨[], rfl, rfl, fun _ h => nomatch h⟩
  case turn =>
    rintro i ys nw v I oI C' oC D m₂ h tk₂ E' hi ⟨ps, hps, rfl, hent⟩ hP hC hx F2 N2 off ne
    obtain ⟨⟨r, t⟩, hp, rfl⟩ := item_str hP
    have hz' : r.length ≤ 100 := hz _ (List.mem_of_getElem? hp)
    dsimp only at hx
    k_steps
    unfold NxStop
    rename_i D2 h3 F3 N3 l1
    refine CompEnd.intro F3 N3 (prEnt (D2, tk₂ + 1, r, t) :: nw) (fun p hp => ?_) ⟨⟨Nat.ne_of_gt l1.1, Nat.ne_of_gt l1.2.1, Nat.ne_of_gt l1.2.2.1⟩, off⟩ (.inl hr) ⟨ps ++ [(D2, tk₂ + 1, r, t)], ?_, ?_, fun p hp => ?_⟩
    · simp only [List.mem_cons] at hp ⊢
      rcases hp with e | e | e | e | e
      · exact .inr (.inl e)
      · exact .inr (.inr (.inl e))
      · exact .inr (.inr (.inr (.inl e)))
      · exact .inl e
      · exact .inr (.inr (.inr (.inr e)))
    · rw [List.map_append, hps, List.take_add_one, hp]; rfl
    · rw [List.map_append]; rfl
    · rcases List.mem_append.mp hp with e | e
      · exact List.mem_cons_of_mem _ (hent p e)
      · rw [List.mem_singleton.mp e]; exact List.mem_cons_self
  case fin => 
    rintro ys nw ⟨ps, hps, rfl, hent⟩
    intro D h tk₂ F2 N2 off
    dsimp only
    rw [List.take_length] at hps
    have hlen : ps.length = l.length := by rw [← hps, List.length_map]
    have htx : prTxts ps = l.map (·.1) := by rw [← hps, List.map_map]; rfl
    unfold sortOk at hok
    rw [Bool.and_eq_true, Bool.and_eq_true, List.length_map, List.all_eq_true, beq_iff_eq] at hok
    obtain ⟨ok1, ok2, ok3⟩ := hok
    k_steps
    unfold NxStop
    refine sorted_prs F2 N2 (ps := ps) (fun p hp => List.mem_cons_of_mem _ (hent p hp)) ⟨_, (N2 _ List.mem_cons_self).1, rfl, _, rfl⟩ (by omega) (by omega) (by rw [htx, hlen]; exact ok1) fun D3 c h3 F3 N3 lt => ?_
    rw [htx, hlen] at N3
    refine LCp.SrcLP.ledger rfl F3 N3 List.mem_cons_self (by rw [List.size_toArray, List.length_map, ok3, sizeLine_eq]; omega) fun g2 => ?_
    refine comp_indP (OutInv _ (l.map (·.1)) (runT (sLt (l.map (·.1))) (kas_sort l.length)).toList) (runT (sLt (l.map (·.1))) (kas_sort l.length)).toList.length ?turn ?fin _ 0 [] _ (by simp) ⟨rfl, [], rfl, by simp⟩
    case turn =>
      rintro i ys nw' v hi ⟨rfl, q, rfl, hq⟩ hP
      obtain ⟨j, hj, rfl⟩ : ∃ j, (runT (sLt (l.map (·.1))) (kas_sort l.length)).toList[i]? = some j ∧ v = (ps.map prRef).getD j .none := by
        simp only [List.getElem?_toArray, List.getElem?_map, Option.map_eq_some_iff] at hP
        obtain ⟨j, h1, h2⟩ := hP
        exact ⟨j, h1, h2.symm⟩
      have hjl : j < ps.length := by
        have := ok2 j (List.mem_of_getElem? hj)
        rw [hlen]; simpa using this
      have ej : (ps.map prRef).getD j Value.none = .ref ps[j].1 := by simp [hjl, prRef]
      rw [ej]
      refine ⟨ps[j].1, prObj ps[j], _, _, 0, rfl, List.mem_cons_of_mem _ (List.mem_cons_of_mem _ (hent _ (List.getElem_mem hjl))), rfl, rfl, ?_⟩
      intro I oI C' oC D4 m₂ h tk₃ E' hC hx1 hx2 F4 N4 off4 ne
      k_steps
      unfold NxStop
      exact CompEnd.intro F4 N4 _ (fun p hp => hp) off4 (.inr ⟨_, List.mem_cons_self, rfl, _, rfl⟩) (OutInv.step hq hj (by simp [txt, ← htx, hjl]))
    case fin =>
      rintro ys nw' ⟨rfl, q, rfl, hq⟩
      intro D4 h4 tk₄ F4 N4 off4
      rw [List.take_length] at hq
      exact ret D4 q _ h4 tk₄ F4.keep (N4 _ List.mem_cons_self).2.2 (N4 _ List.mem_cons_self).1 (by rw [hq, sortS, List.length_map])
end
end Mine
end
section
open PySem PySem.W PyProof.Rows
theorem Mine.anew7 {M : Model} {A : Around} {env : Env} {Q : Flow → Shared → Prop} {E : Value → Shared → Prop} {s : Shared} (h : wpAny M A (execs [] env) Q E s) : wpAny M A (execs [] env) Q E s := by first | (walk1; done) | exact h
end
section
open PySem PySem.W PyProof.Rows PySem.Calls
set_option maxHeartbeats 4000000
namespace Mine
theorem sub_base {prog : Program} {w : World} {A : Around} {E : Value → Shared → Prop} {s : Shared} {h₀ : Heap} {L : Addr} {m : Str → Option Value} {value slice : PySem.Expr} {l : Addr} {vs : List Value} {k : Int} {u : Tok} {v : Value} {Q : Value → Shared → Prop}
    (F : Fr h₀ L s.heap m) (hl : h₀.IsList l vs.toArray) (h0 : 0 ≤ k) (hhi : k < 2 ^ 63) (hx : vs[k.toNat]? = some v) (h : Q v s)
    (hs : subscripted slice false (.ref l) (.int k u) = operate [.ref l, .int k u] (getItem (.ref l) (.int k u)) := by with_unfolding_all rfl) :
    wpAny (model prog w) A (subscriptTail value slice (.ref l) (.int k u)) Q E s :=
  have hL := stays_list F.keep hl
  tail_any hL.typeIs slot_list_getitem.lookup (wpAny_getItem_list hL h0 hhi (by simpa using hx) h) hs
local macro_rules | `(tactic| walk_at $s:str) => wk "" s
local macro_rules | `(tactic| walk_at "subscriptTail") => `(tactic| (k_here; (with_reducible show wpAny _ _ (subscriptTail _ _ (Value.ref _) (Value.int _ _)) _ _ _); with_unfolding_all (refine sub_base (by assumption) (by assumption) (by decide) (by decide) (by rfl) ?_)))
section
variable {w : World} {mean : ExcName → Option Value} {mg mb : Str → Option Value} {base : Heap} {outer : List Env} {g : Heap} {gs : Array GenState} {dr : Drawn} {tk : Nat} {os : OsState} {Q E : Value → Shared → Prop}

noncomputable def rowS (x : Int) : Str := Txt.slice (Txt.item (Str.ofString "..a\x0b\u2028") ((x.fdiv 3).fmod 5) ++ Txt.item (Str.ofString "..a\x0b\u2028") (x.fdiv 15)) none (some (x.fmod 3))
theorem c_row (C : Cx w mean mg mb 0 base outer g) (x : Int) (t : Tok) (h0 : 0 ≤ x) (h1 : x < 75)
   (ret : ∀ t h' tk', Keeps g h' → Q (.str (rowS x) t) ⟨h', gs, dr, tk', os⟩) :
   wpAny (model Challenge.rw_ny0273_01.row.prog w) (AA 0 outer) (call (.ref 210) [.int x t]) Q E ⟨g, gs, dr, tk, os⟩ := by
  have X := C.X; revert X; k_fill; intro X
  refine wpAny_call ?_
  refine' enter [(Str.ofString "x", .int x t)] [] C (List.forall_mem_nil _) ?ho ?hcd ?hb ?hl ?c1 ?c2 ?c3 ?c4 ?_
  k_dflt ((case ho => k_is); (case hcd => k_is); (case hb => exact BindsTo.of_eq rfl); (case c4 => decide); (case hl => exact locs rfl); (case c1 => exact rfl); (case c2 => exact rfl); (case c3 => exact rfl); k_whole; intro _ _ _ _ eg _ _ _ _ _; replace eg := (show _ = _ from eg); subst eg; (try dsimp only); (try k_fold))
  k_steps
  dsimp only
  exact ret _ _ _ (Fr.keep (by assumption))

theorem c_written (C : Cx w mean mg mb 0 base outer g) {ra wa : Addr} {r0 r1 r2 r3 w0 w1 w2 : Str} {t0 t1 t2 t3 u0 u1 u2 : Tok} (hr : g.IsList ra [.str r0 t0, .str r1 t1, .str r2 t2, .str r3 t3].toArray) (hw : g.IsList wa [.str w0 u0, .str w1 u1, .str w2 u2].toArray)
   (l0 : r0.length ≤ 2) (l1 : r1.length ≤ 2) (l2 : r2.length ≤ 2) (l3 : r3.length ≤ 2) (k0 : w0.length ≤ 2) (k1 : w1.length ≤ 2) (k2 : w2.length ≤ 2)
   (ret : ∀ t h' tk', Keeps g h' → Q (.str (r0 ++ (w0 ++ r1) ++ (w1 ++ r2) ++ (w2 ++ r3)) t) ⟨h', gs, dr, tk', os⟩) :
   wpAny (model Challenge.rw_ny0273_01.row.prog w) (AA 0 outer) (call (.ref 222) [.ref ra, .ref wa]) Q E ⟨g, gs, dr, tk, os⟩ := by
  have X := C.X; revert X; k_fill; intro X
  refine wpAny_call ?_
  refine' enter [(Str.ofString "word", .ref wa), (Str.ofString "rows", .ref ra)] [] C (List.forall_mem_nil _) ?ho ?hcd ?hb ?hl ?c1 ?c2 ?c3 ?c4 ?_
  k_dflt ((case ho => k_is); (case hcd => k_is); (case hb => exact BindsTo.of_eq rfl); (case c4 => decide); (case hl => exact locs rfl); (case c1 => exact rfl); (case c2 => exact rfl); (case c3 => exact rfl); k_whole; intro _ _ _ _ eg _ _ _ _ _; replace eg := (show _ = _ from eg); subst eg; (try dsimp only); (try k_fold))
  k_steps
  dsimp only
  exact ret _ _ _ (Fr.keep (by assumption))
end
end Mine
end
section
open PySem PySem.W PyProof.Rows
theorem Mine.anew8 {M : Model} {A : Around} {env : Env} {Q : Flow → Shared → Prop} {E : Value → Shared → Prop} {s : Shared} (h : wpAny M A (execs [] env) Q E s) : wpAny M A (execs [] env) Q E s := by first | (walk1; done) | exact h
end
section
open PySem PySem.W PyProof.Rows PySem.Calls PyProof.Rows.LCg
set_option maxHeartbeats 4000000
namespace Mine
section
variable {w : World} {mean : ExcName → Option Value} {mg mb : Str → Option Value} {base : Heap} {outer : List Env} {g h h' : Heap} {L : Addr} {m : Str → Option Value} {news : List (Addr × Obj)} {env : Env} {r r' : Nat}
theorem cx_callG (B : Below (AA r' outer) base outer g) (X : (Mine.hd.heap_1 w.params).In g) (T : TopH mean mg mb g) (F : Fr g L h m) (N : News g L h news) (hf : env.frame = some L) (hke : env.scope.kind = .function) :
    Cx w mean mg mb r base (env :: outer) (hideAll h (news.map (·.1))) := by
  obtain ⟨_, b, st, _⟩ := groundX (A := AA r (env :: outer)) (R := fun _ _ => True) (s := { heap := h }) B F N rfl hf hke
  exact ⟨b, X.keeps st, T.keeps st⟩
theorem wp_callG {α : Type} {M : Model} {t : Sem α} {Q : α → Shared → Prop} {E : Value → Shared → Prop} {s : Shared} (hr : r < r' ∧ r' ≤ 8) (h : wpAny M (AA r (env :: outer)) t Q E s) : wpAny M ((AA r' outer).deeper env) t Q E s :=
  wp_weaken (900 - 100 * r) (9000 - 1000 * r) h (by show 900 - 100 * r' + 1 ≤ _; omega) (by show 9000 - 1000 * r' + 3 ≤ _; omega)
end
theorem news_swap {h₀ h : Heap} {L : Addr} {a b : Addr × Obj} {r : Led} (N : News h₀ L h (a :: b :: r)) : News h₀ L h (b :: a :: r) := fun p hp => N p (by
  simp only [List.mem_cons] at hp ⊢
  rcases hp with e | e | e
  · exact .inr (.inl e)
  · exact .inl e
  · exact .inr (.inr e))
theorem sd_len {α : Type} {lt : α → α → Bool} {x : α} : ∀ (n : Nat) (l : List α) (pos : Nat), (sd lt x n l pos).length = l.length
  | 0, l, pos => by simp [sd]
  | n + 1, l, pos => by
    unfold sd
    split
    · simp
    · split
      · simp
      · split
        · rw [sd_len n]; simp
        · simp
theorem su_len {α : Type} {lt : α → α → Bool} {x : α} : ∀ (n : Nat) (l : List α) (pos : Nat), (su lt x n l pos).length = l.length
  | 0, l, pos => by simp [su, sd_len]
  | n + 1, l, pos => by
    unfold su
    split
    · simp [sd_len]
    · split
      · rw [su_len n]; simp
      · split
        · rw [su_len n]; simp
        · rw [su_len n]; simp
theorem hpush_len {α : Type} {lt : α → α → Bool} {x : α} {l : List α} : (hpush lt l x).length = l.length + 1 := by simp [hpush, sd_len]
theorem hpop_len {α : Type} {lt : α → α → Bool} {x : α} {l r : List α} (h : hpop lt l = some (x, r)) : r.length + 1 = l.length := by
  unfold hpop at h
  rcases List.eq_nil_or_concat l with rfl | ⟨p, y, rfl⟩
  · cases h
  · rw [List.concat_eq_append, List.dropLast_concat, List.getLast?_concat] at h
    cases p with
    | nil => injection h with h; injection h with h1 h2; subst h2; rfl
    | cons a b => injection h with h; injection h with h1 h2; subst h2; simp [su_len]
theorem value_range {la : Nat → Addr} : ∀ j, j < 9 → valueAt ((List.range 9).map fun i : Nat => ((i : Int), Value.ref (la i))) ((j : Nat) : Int) = some (.ref (la j))
  | 0, _ => rfl
  | 1, _ => rfl
  | 2, _ => rfl
  | 3, _ => rfl
  | 4, _ => rfl
  | 5, _ => rfl
  | 6, _ => rfl
  | 7, _ => rfl
  | 8, _ => rfl
  | n + 9, h => absurd h (by omega)
theorem dict_keeps {prog : Program} {w : World} {h h' : Heap} {a : Addr} {kvs : List (Int × Value)} (k : Keeps h h') (x : h.DictOf (intKind prog w) a kvs) : h'.DictOf (intKind prog w) a kvs := let ⟨o, es, ep, ho, r⟩ := x; ⟨o, es, ep, k _ _ ho, r⟩
theorem sub_dict {prog : Program} {w : World} {A : Around} {E : Value → Shared → Prop} {s : Shared} {h₀ : Heap} {value slice : PySem.Expr} {d : Addr} {kvs : List (Int × Value)} {k : Int} {u : Tok} {v : Value} {Q : Value → Shared → Prop}
    (kp : Keeps h₀ s.heap) (hd : h₀.DictOf (intKind prog w) d kvs) (hl : valueAt kvs k = some v) (h : Q v { s with toks := s.toks + 1 })
    (hs : subscripted slice false (.ref d) (.int k u) = operate [.ref d, .int k u] (getItem (.ref d) (.int k u)) := by with_unfolding_all rfl) :
    wpAny (model prog w) A (subscriptTail value slice (.ref d) (.int k u)) Q E s :=
  have hD := dict_keeps kp hd
  tail_any hD.typeIs slot_dict_getitem.lookup (wpAny_getItem_of (intKind_is _ _ _ _) hD.mapOf hl h) hs
theorem news_third {h₀ h : Heap} {L : Addr} {a b c : Addr × Obj} {r : Led} (N : News h₀ L h (a :: b :: c :: r)) : News h₀ L h (c :: a :: b :: r) := fun p hp => N p (by
  simp only [List.mem_cons] at hp ⊢
  rcases hp with e | e | e | e
  · exact .inr (.inr (.inl e))
  · exact .inl e
  · exact .inr (.inl e)
  · exact .inr (.inr (.inr e)))
noncomputable def JPost (h₀ : Heap) (L : Addr) (m : Loc) (nw : Led) (s : Shared) (cond : Prop) (b : Bool) (s₂ : Shared) : Prop := ∃ h tk, s₂ = { s with heap := h, toks := tk } ∧ Fr h₀ L h m ∧ News h₀ L h nw ∧ (b = true ↔ cond)
theorem JPost.intro {h₀ : Heap} {L : Addr} {m : Loc} {nw : Led} {s : Shared} {cond : Prop} {b : Bool} {h : Heap} {tk : Nat} (F : Fr h₀ L h m) (N : News h₀ L h nw) (e : b = true ↔ cond) : JPost h₀ L m nw s cond b { s with heap := h, toks := tk } := ⟨h, tk, rfl, F, N, e⟩
/-- an if whose ways are walked once each, whatever the ways through its test -/
theorem if_join {prog : Program} {w : World} {A : Around} {s : Shared} {h₀ : Heap} {L : Addr} {env : Env} {Q : Flow → Shared → Prop} {test : PySem.Expr} {body orelse : List Stmt} {pos : Pos} {m : Loc} {nw : Led} (cond : Prop) (_F : Fr h₀ L s.heap m) (_N : News h₀ L s.heap nw)
    (h : wpAny (model prog w) A (isTrue test env (eval test env)) (JPost h₀ L m nw s cond) (fun _ _ => False) s)
    (yes : cond → ∀ h tk, Fr h₀ L h m → News h₀ L h nw → wpAny (model prog w) A (execs body env) Q (fun _ _ => False) { s with heap := h, toks := tk })
    (no : ¬ cond → ∀ h tk, Fr h₀ L h m → News h₀ L h nw → wpAny (model prog w) A (execs orelse env) Q (fun _ _ => False) { s with heap := h, toks := tk }) :
    wpAny (model prog w) A (exec (.If test body orelse pos) env) Q (fun _ _ => False) s := by
  refine wpAny_If (wpAny_mono h (fun b s₂ hb => ?_) fun _ _ x => x.elim)
  obtain ⟨h, tk, rfl, F, N, e⟩ := hb
  by_cases c : cond
  · rw [if_pos (e.mpr c)]; exact yes c h tk F N
  · rw [if_neg (fun x => c (e.mp x))]; exact no c h tk F N
/-- the table of heads, laid on the ground -/
structure Heads (w : World) (g : Heap) (ha : Addr) (la : Nat → Addr) (hv : Nat → List Value) (hs : Nat → List Int) : Prop where
  dict : g.DictOf (intKind Challenge.rw_ny0273_01.row.prog w) ha ((List.range 9).map fun i : Nat => ((i : Int), Value.ref (la i)))
  list : ∀ i, i < 9 → g.IsList (la i) (hv i).toArray ∧ IntsAre (hv i) (hs i)
theorem runD_step {P : Par} {n : Nat} {its : List It} {f R : List Str} (h : runD P n (its.map dat) f = some R) : ∃ n', n = n' + 1 ∧ its.length ≤ 100 ∧ f.length ≤ 100 ∧ (its = [] ∧ f = R ∨ ∃ x rest, hpop ltI its = some (x, rest) ∧ x ∈ its ∧ (∀ p ∈ rest, p ∈ its) ∧
    (if 5 < x.k then runD P n' (rest.map dat) (f ++ [x.x]) = some R else -1 ≤ x.k ∧ x.x.length ≤ 50 ∧ runD P n' (pushD P (dat x) (pushD P (dat x) (pushD P (dat x) (rest.map dat) 0) 1) 2) f = some R)) := by
  cases n with
  | zero => cases h
  | succ n =>
    unfold runD at h
    by_cases hz : 100 < (its.map dat).length ∨ 100 < f.length
    · rw [if_pos hz] at h; cases h
    · rw [if_neg hz] at h
      have hz' : its.length ≤ 100 ∧ f.length ≤ 100 := by rw [List.length_map] at hz; omega
      refine ⟨n, rfl, hz'.1, hz'.2, ?_⟩
      rw [hpop_dat] at h
      cases hp : hpop ltI its with
      | none =>
        refine .inl ⟨?_, by rw [hp] at h; simpa using h⟩
        unfold hpop at hp
        rcases List.eq_nil_or_concat its with e | ⟨a, b, e⟩
        · exact e
        · exfalso
          subst e
          rw [List.concat_eq_append, List.dropLast_concat, List.getLast?_concat] at hp
          cases a <;> cases hp
      | some xr =>
        obtain ⟨x, rest⟩ := xr
        have hm := (hpop_map dat (fun p => p ∈ its) (lt := ltI) (lt' := ltD) (fun _ _ _ _ => rfl) (fun y hy => hy)).2 x rest hp
        refine .inr ⟨x, rest, rfl, hm.1, hm.2, ?_⟩
        rw [hp] at h
        simp only [Option.map_some] at h
        by_cases hk : 5 < x.k
        · rw [if_pos hk]; rw [if_pos (show 5 < (dat x).k from hk)] at h; exact h
        · rw [if_neg hk]; rw [if_neg (show ¬ 5 < (dat x).k from hk)] at h
          by_cases hb : -1 ≤ (dat x).k ∧ (dat x).x.length ≤ 50
          · rw [if_pos hb] at h; exact ⟨hb.1, hb.2, h⟩
          · rw [if_neg hb] at h; cases h
local macro_rules | `(tactic| walk_at $s:str) => wk "S=exec While|exec For Name Call cons nil|call ref|call builtin:list.append|assign Tuple|exec If|truthy ref;ST=subscriptTail;HV=nx_hv;NM=eval Name;D=WPost|FPost;T=compareOp In int ref" s
inductive ShInv (g : Heap) (q fd ra ea ha : Addr) (P : Par) (R : List Str) (n : Nat) (m : Loc) (nw : Led) : Prop
  | out (its : List It) (fn : List (Str × Tok)) (c c2 : Nat) (Wl : Led) (z1 : m (Str.ofString "queue") = some (.ref q)) (z2 : m (Str.ofString "found") = some (.ref fd)) (z3 : m (Str.ofString "rows") = some (.ref ra)) (z4 : m (Str.ofString "ends") = some (.ref ea)) (z5 : m (Str.ofString "heads") = some (.ref ha)) (z6 : nw = (q, W.listOf (its.map itRef).toArray c) :: (fd, W.listOf (strValues fn).toArray c2) :: Wl) (z7 : (∀ p ∈ its, itEnt p ∈ Wl)) (z8 : q ≠ fd) (z9 : (∀ p ∈ Wl, p.1 ≠ q)) (z10 : (∀ p ∈ Wl, p.1 ≠ fd)) (z11 : runD P n (its.map dat) (fn.map (·.1)) = some R) : ShInv g q fd ra ea ha P R n m nw
noncomputable def pfx (P : Par) (x : Dt) (l : List Dt) (i : Nat) : List Dt := (List.range i).foldl (pushD P x) l
inductive FInv (q fd ra ea ha : Addr) (P : Par) (x : It) (fn : List (Str × Tok)) (c2 : Nat) (l : List Dt) (i : Nat) (m : Loc) (nw : Led) : Prop
  | out (its : List It) (c : Nat) (Wl : Led) (z1 : m (Str.ofString "queue") = some (.ref q)) (z2 : m (Str.ofString "found") = some (.ref fd)) (z3 : m (Str.ofString "rows") = some (.ref ra)) (z4 : m (Str.ofString "ends") = some (.ref ea)) (z5 : m (Str.ofString "heads") = some (.ref ha)) (z6 : m (Str.ofString "text") = some (.str x.x x.tx)) (z7 : m (Str.ofString "node") = some (.int x.k x.tk)) (z8 : nw = (q, W.listOf (its.map itRef).toArray c) :: (fd, W.listOf (strValues fn).toArray c2) :: Wl) (z9 : (∀ p ∈ its, itEnt p ∈ Wl)) (z10 : q ≠ fd) (z11 : (∀ p ∈ Wl, p.1 ≠ q)) (z12 : (∀ p ∈ Wl, p.1 ≠ fd)) (z13 : its.map dat = pfx P (dat x) l i) (z14 : its.length ≤ 200 + i) : FInv q fd ra ea ha P x fn c2 l i m nw
theorem push_end {g h : Heap} {L I q fd ra ea ha : Addr} {oI : Obj} {P : Par} {x y : It} {fn : List (Str × Tok)} {c2 c6 i : Nat} {l : List Dt} {s : Shared} {m : Loc} {its : List It} {Wl : Led} {tk : Nat} (F : Fr g L h m) (N : News g L h ((q, W.listOf ((hpush ltI its y).map itRef).toArray c6) :: itEnt y :: (I, oI) :: (fd, W.listOf (strValues fn).toArray c2) :: Wl))
    (m1 : m (Str.ofString "queue") = some (.ref q)) (m2 : m (Str.ofString "found") = some (.ref fd)) (m3 : m (Str.ofString "rows") = some (.ref ra)) (m4 : m (Str.ofString "ends") = some (.ref ea)) (m5 : m (Str.ofString "heads") = some (.ref ha)) (m6 : m (Str.ofString "text") = some (.str x.x x.tx)) (m7 : m (Str.ofString "node") = some (.int x.k x.tk))
    (hqf : q ≠ fd) (oq : ∀ p ∈ Wl, p.1 ≠ q) (ofd : ∀ p ∈ Wl, p.1 ≠ fd) (hW : ∀ p ∈ its, itEnt p ∈ Wl) (off : ∀ p ∈ Wl, p.1 ≠ I) (lq : q ≠ I) (lf : fd ≠ I) (ly : I < y.a ∧ q < y.a ∧ fd < y.a)
    (hd : its.map dat = pfx P (dat x) l i) (hl : its.length ≤ 200 + i) (hc : x.k = -1 ∨ P.H (3 * x.k.fdiv 3 + 3 + i) x.k = true) (ey : dat y = moreD P (dat x) i) : FEnd g L s I oI (FInv q fd ra ea ha P x fn c2 l (i + 1)) { s with heap := h, toks := tk } := by
  refine FEnd.intro F N ((q, W.listOf ((hpush ltI its y).map itRef).toArray c6) :: (fd, W.listOf (strValues fn).toArray c2) :: itEnt y :: Wl) (picks [2, 0, 3, 1] 4) (all_cons lq (all_cons lf (all_cons (Nat.ne_of_gt ly.1) off))) ⟨hpush ltI its y, c6, itEnt y :: Wl, m1, m2, m3, m4, m5, m6, m7, rfl, fun p hp => ?pW, hqf, fun p hp => ?pq, fun p hp => ?pf, ?pd, ?pl⟩
  case pW =>
    have := (hpush_map (lt := ltI) (lt' := ltI) (fun p => p) (fun p => p = y ∨ p ∈ its) (fun _ _ _ _ => rfl) (.inl rfl) (fun y hy => .inr hy)).2 p hp
    rcases this with e | e
    · rw [e]; exact List.mem_cons_self
    · exact List.mem_cons_of_mem _ (hW p e)
  case pq =>
    rcases List.mem_cons.mp hp with e | hp
    · rw [e]; exact Nat.ne_of_gt ly.2.1
    · exact oq p hp
  case pf =>
    rcases List.mem_cons.mp hp with e | hp
    · rw [e]; exact Nat.ne_of_gt ly.2.2
    · exact ofd p hp
  case pd =>
    rw [hpush_dat, hd, ey, pfx, pfx, List.range_succ, List.foldl_append, List.foldl_cons, List.foldl_nil]
    exact (if_pos (c := (dat x).k = -1 ∨ _) hc).symm
  case pl => rw [hpush_len]; omega
section
variable {w : World} {mean : ExcName → Option Value} {mg mb : Str → Option Value} {base : Heap} {outer : List Env} {g : Heap} {gs : Array GenState} {dr : Drawn} {tk : Nat} {os : OsState} {Q E : Value → Shared → Prop}
theorem c_shortest (C : Cx w mean mg mb 3 base outer g) {ra ea ha : Addr} {r0 r1 r2 r3 e0 e1 e2 : Str} {t0 t1 t2 t3 u0 u1 u2 : Tok} {la : Nat → Addr} {hv : Nat → List Value} {hs : Nat → List Int}
   (hr : g.IsList ra [.str r0 t0, .str r1 t1, .str r2 t2, .str r3 t3].toArray) (he : g.IsList ea [.str e0 u0, .str e1 u1, .str e2 u2].toArray) (hd : Heads w g ha la hv hs)
   (l0 : r0.length ≤ 2) (l1 : r1.length ≤ 2) (l2 : r2.length ≤ 2) (l3 : r3.length ≤ 2) (k0 : e0.length ≤ 2) (k1 : e1.length ≤ 2) (k2 : e2.length ≤ 2)
   {P : Par} {n : Nat} {R : List Str} (hE : ∀ i, i < 3 → P.E i = [e0, e1, e2].getD i ⟨#[]⟩) (hR : ∀ i, i < 4 → P.R i = [r0, r1, r2, r3].getD i ⟨#[]⟩) (hH : ∀ (i : Nat) (k : Int), i < 9 → P.H i k = (hs i).any (· == k))
   (hrun : runD P n [⟨r0.length, r0, -1⟩] [] = some R)
   (ret : ∀ D q c h' tk', Keeps g h' → g.get? D = none → h'.get? D = some (W.listOf (strValues q).toArray c) → q.map (·.1) = R → Q (.ref D) ⟨h', gs, dr, tk', os⟩) :
   wpAny (model Challenge.rw_ny0273_01.row.prog w) (AA 3 outer) (call (.ref 251) [.ref ra, .ref ea, .ref ha]) Q E ⟨g, gs, dr, tk, os⟩ := by
  have X := C.X; revert X; k_fill; intro X
  refine wpAny_call ?_
  refine' enter [(Str.ofString "heads", .ref ha), (Str.ofString "ends", .ref ea), (Str.ofString "rows", .ref ra)] [] C (List.forall_mem_nil _) ?ho ?hcd ?hb ?hl ?c1 ?c2 ?c3 ?c4 ?_
  k_dflt ((case ho => k_is); (case hcd => k_is); (case hb => exact BindsTo.of_eq rfl); (case c4 => decide); (case hl => exact locs rfl); (case c1 => exact rfl); (case c2 => exact rfl); (case c3 => exact rfl); k_whole)
  intro g' L h1 tk1 eg F1 N1 B1 X1 T1
  obtain rfl : g' = g := eg
  (try dsimp only)
  (try k_fold)
  k_steps
  unfold NxStop
  rename Fr _ _ _ _ => F2
  refine sub_base F2 hr (by omega) (by omega) (v := .str r0 t0) rfl ?_
  k_steps
  unfold NxStop
  rename Fr _ _ _ _ => F2
  refine sub_base F2 hr (by omega) (by omega) (v := .str r0 t0) rfl ?_
  k_steps
  unfold NxStop
  rename Fr _ _ _ _ => F3
  rename News _ _ _ _ => N3
  rename_i D _ _ q _ lq _ _ fd _ lf _
  refine while_ind (ShInv g' q fd ra ea ha P R) ?turn (n := n) ?hG F3 (news_swap N3)
  case hG => exact ⟨[⟨D, _, _, _, _, _, _⟩], [], _, _, _, rfl, rfl, rfl, rfl, rfl, rfl, fun p hp => by rw [List.mem_singleton.mp hp]; exact List.mem_cons_self, Nat.ne_of_lt lf.1, fun p hp => by rw [List.mem_singleton.mp hp]; exact Nat.ne_of_lt lq, fun p hp => by rw [List.mem_singleton.mp hp]; exact Nat.ne_of_lt lf.2, hrun⟩
  case turn =>
    rintro n m nw h3 tk3 ⟨its, fn, c, c2, Wl, m1, m2, m3, m4, m5, rfl, hW, hqf, oq, ofd, hrn⟩ F3 N3
    refine hide_test fun Q1 hQ1 => ?_
    obtain ⟨n', rfl, z1, z2, stp⟩ := runD_step hrn
    k_steps
    unfold NxStop
    refine wpAny_truthy_list (PySem.IsL.isList (N3 _ List.mem_cons_self).1) (by simp; omega) ?_
    rcases stp with ⟨rfl, rfl⟩ | ⟨x, rest, hx, xm, rm, nxt⟩
    · rw [if_neg (by simp)]
      k_steps
      exact ret _ _ _ _ _ F3.keep (N3 _ (List.mem_cons_of_mem _ List.mem_cons_self)).2.2 (N3 _ (List.mem_cons_of_mem _ List.mem_cons_self)).1 rfl
    · rw [if_pos (by simp; exact List.ne_nil_of_mem xm)]
      k_steps
      unfold NxStop
      have N3q : News g' L h3 [(_, _)] := fun p hp => N3 p (by rw [List.mem_singleton.mp hp]; exact List.mem_cons_self)
      refine wp_callG (r := 2) (by omega) ?_
      refine c_pop rfl (cx_callG B1 X1 T1 F3 N3q rfl rfl) (N3 _ List.mem_cons_self).1 (fun p hp => hideAll_get _ (N3 _ (List.mem_cons_of_mem _ (List.mem_cons_of_mem _ (hW p hp)))).1 (fun hm => oq _ (hW p hp) (List.mem_singleton.mp hm))) hx (by omega) fun c' h4 tk4 k4 hq4 => ?_
      have F4 := fr_after F3 N3q k4
      have off4 : ∀ p ∈ (_, W.listOf (strValues fn).toArray c2) :: Wl, p.1 ≠ _ := fun p hp => by
        rcases List.mem_cons.mp hp with e | e
        · rw [e]; exact Ne.symm hqf
        · exact oq p e
      have N4 := news_after N3 off4 k4 hq4
      k_steps
      unfold NxStop
      have hxe : itEnt x ∈ Wl := hW x xm
      refine unpackN_ F4 N4 (items := #[.int x.n x.tn, .str x.x x.tx, .int x.k x.tk]) ⟨_, (N4 _ (List.mem_cons_of_mem _ (List.mem_cons_of_mem _ hxe))).1, rfl, _, rfl⟩ rfl rfl rfl fun h5 F5 N5 => ?_
      k_steps
      unfold NxStop
      refine wpAny_If ?_
      k_steps
      · unfold NxStop
        rename 5 < x.k => hk5
        rw [if_pos hk5] at nxt
        rename Fr _ _ _ _ => F6
        rename News _ _ _ _ => N6
        refine append_K F6 N6 (.tail hqf (.head ofd)) (fun h7 F7 N7 => ?_) (by simp [strValues, sizeLine_eq] at z2 ⊢; omega)
        k_steps
        refine post_of hQ1 ?_
        show WEnd _ _ _ _ _ _
        refine WEnd.intro F7 N7 (k := n') (by omega) ⟨rest, fn ++ [(x.x, x.tx)], c', c2 + 1, Wl, ?p1, ?p2, ?p3, ?p4, ?p5, ?p6, fun p hp => hW p (rm p hp), hqf, oq, ofd, ?p7⟩
        case p1 => walk_at "nx_hv"
        case p2 => walk_at "nx_hv"
        case p3 => walk_at "nx_hv"
        case p4 => walk_at "nx_hv"
        case p5 => walk_at "nx_hv"
        case p6 => simp [strValues]
        case p7 => rw [List.map_append]; exact nxt
      · unfold NxStop
        rename ¬ 5 < x.k => hk5
        rw [if_neg hk5] at nxt
        obtain ⟨nx1, nx2, nxt⟩ := nxt
        have hz1 : -1 ≤ x.k.fdiv 3 ∧ x.k.fdiv 3 ≤ 1 := by rw [Int.fdiv_eq_ediv_of_nonneg _ (by omega)]; omega
        have hsm : Builtin.Range.small (3 * x.k.fdiv 3 + 3) (3 * x.k.fdiv 3 + 6) 1 = true ∧ Builtin.Range.rangeSize (3 * x.k.fdiv 3 + 3) (3 * x.k.fdiv 3 + 6) 1 = ((3 : Nat) : Int) := by
          generalize x.k.fdiv 3 = z at hz1
          obtain rfl | rfl | rfl : z = -1 ∨ z = 0 ∨ z = 1 := by omega
          all_goals exact ⟨by decide, by decide⟩
        refine for_range (h₀ := g') (L := L) (a := 3 * x.k.fdiv 3 + 3) (b := 3 * x.k.fdiv 3 + 6) (n := 3) rfl hsm.1 hsm.2 (fun _ => rfl) (FInv q fd ra ea ha P x fn c2 (rest.map dat)) ?_
        k_steps
        unfold NxStop
        refine ⟨_, _, _, _, _, _, rfl, by assumption, by assumption, by assumption, ?g0, fun gg => ⟨?trn, ?fin⟩⟩
        case g0 =>
          refine ⟨rest, c', Wl, ?p1, ?p2, ?p3, ?p4, ?p5, ?p6, ?p7, rfl, fun p hp => hW p (rm p hp), hqf, oq, ofd, rfl, ?p8⟩
          case p1 => walk_at "nx_hv"
          case p2 => walk_at "nx_hv"
          case p3 => walk_at "nx_hv"
          case p4 => walk_at "nx_hv"
          case p5 => walk_at "nx_hv"
          case p6 => walk_at "nx_hv"
          case p7 => walk_at "nx_hv"
          case p8 => have := hpop_len hx; omega
        case fin =>
          rintro m nw h tk ⟨its5, c5, Wl5, m1, m2, m3, m4, m5, m6, m7, rfl, hW5, _, oq5, ofd5, hd5, hl5⟩ F8 N8
          k_steps
          refine post_of hQ1 ?_
          show WEnd _ _ _ _ _ _
          refine WEnd.intro F8 N8 (k := n') (by omega) ⟨its5, fn, c5, c2, Wl5, m1, m2, m3, m4, m5, rfl, hW5, hqf, oq5, ofd5, ?_⟩
          rw [hd5]; exact nxt
        case trn =>
          rintro I i m nw oI t h tk hi ⟨its5, c5, Wl5, m1, m2, m3, m4, m5, m6, m7, rfl, hW5, _, oq5, ofd5, hd5, hl5⟩ F8 N8 off8
          refine hide_turn fun Q2 hQ2 => ?_
          obtain ⟨tE, hEi, EL⟩ : ∃ tok, [Value.str e0 u0, .str e1 u1, .str e2 u2][((3 * x.k.fdiv 3 + 3 + (i : Int)).fmod 3).toNat]? = some (.str (P.E i) tok) ∧ (P.E i).length ≤ 2 := by
            have : ((3 * x.k.fdiv 3 + 3 + (i : Int)).fmod 3).toNat = i := by rw [Int.fmod_eq_emod_of_nonneg _ (by omega)]; omega
            rw [this, hE i hi]
            obtain rfl | rfl | rfl : i = 0 ∨ i = 1 ∨ i = 2 := by omega
            · exact ⟨_, rfl, k0⟩
            · exact ⟨_, rfl, k1⟩
            · exact ⟨_, rfl, k2⟩
          obtain ⟨tR, hRi, RL⟩ : ∃ tok, [Value.str r0 t0, .str r1 t1, .str r2 t2, .str r3 t3][((3 * x.k.fdiv 3 + 3 + (i : Int)).fdiv 3 + 1).toNat]? = some (.str (P.R (x.k.fdiv 3 + 2).toNat) tok) ∧ (P.R (x.k.fdiv 3 + 2).toNat).length ≤ 2 := by
            have : ((3 * x.k.fdiv 3 + 3 + (i : Int)).fdiv 3 + 1) = x.k.fdiv 3 + 2 := by rw [Int.fdiv_eq_ediv_of_nonneg (3 * x.k.fdiv 3 + 3 + (i : Int)) (by omega)]; omega
            rw [this, hR _ (by omega)]
            obtain e | e | e : x.k.fdiv 3 = -1 ∨ x.k.fdiv 3 = 0 ∨ x.k.fdiv 3 = 1 := by omega
            · rw [e]; exact ⟨_, rfl, l1⟩
            · rw [e]; exact ⟨_, rfl, l2⟩
            · rw [e]; exact ⟨_, rfl, l3⟩
          clear hx nxt hrn hrun hE hR rm hW hq4 k4 z1 hsm lf lq
          k_steps
          unfold NxStop
          rename Fr _ _ _ _ => F9
          rename News _ _ _ _ => N9
          refine if_join (x.k = -1 ∨ P.H (3 * x.k.fdiv 3 + 3 + i) x.k = true) F9 N9 ?tst ?yes ?no
          case tst =>
            k_steps
            · rename x.k = -1 => hk1
              rename Fr _ _ _ _ => F9
              rename News _ _ _ _ => N9
              exact JPost.intro F9 N9 ⟨fun _ => .inl hk1, fun _ => rfl⟩
            · rename ¬ x.k = -1 => hk1
              unfold NxStop
              have hz0 : 0 ≤ x.k.fdiv 3 := by rw [Int.fdiv_eq_ediv_of_nonneg _ (by omega)]; omega
              obtain ⟨j, hj, ej⟩ : ∃ j : Nat, j < 9 ∧ 3 * x.k.fdiv 3 + 3 + (i : Int) = j := ⟨(3 * x.k.fdiv 3 + 3 + (i : Int)).toNat, by omega, by omega⟩
              rename Fr _ _ _ _ => F9
              refine sub_dict F9.keep hd.dict (v := .ref (la j)) (by rw [ej]; exact value_range j hj) ?_
              k_steps
              unfold NxStop
              rename Fr _ _ _ _ => F9
              refine in_list_ints (stays_list F9.keep (hd.list j hj).1) (hd.list j hj).2 ?_
              rw [← hH j x.k hj, ← ej]
              k_steps
              · rename P.H _ _ = true => hHt
                rename Fr _ _ _ _ => F9
                rename News _ _ _ _ => N9
                exact JPost.intro F9 N9 ⟨fun _ => .inr hHt, fun _ => rfl⟩
              · rename P.H _ _ = false => hHt
                rename Fr _ _ _ _ => F9
                rename News _ _ _ _ => N9
                exact JPost.intro F9 N9 (Iff.intro (fun e => Bool.noConfusion e) (fun e => by cases hHt.symm.trans (e.resolve_left hk1)))
          case no =>
            intro hc h9 tk9 F9 N9
            k_steps
            refine post_of hQ2 ?_
            show FEnd _ _ _ _ _ _ _
            refine FEnd.intro F9 N9 _ (fun p hp => hp) off8 ⟨its5, c5, Wl5, ?p1, ?p2, ?p3, ?p4, ?p5, ?p6, ?p7, rfl, hW5, hqf, oq5, ofd5, ?pd, by omega⟩
            case p1 => walk_at "nx_hv"
            case p2 => walk_at "nx_hv"
            case p3 => walk_at "nx_hv"
            case p4 => walk_at "nx_hv"
            case p5 => walk_at "nx_hv"
            case p6 => walk_at "nx_hv"
            case p7 => walk_at "nx_hv"
            case pd =>
              rw [hd5, pfx, pfx, List.range_succ, List.foldl_append, List.foldl_cons, List.foldl_nil]
              exact (if_neg (c := (dat x).k = -1 ∨ _) hc).symm
          case yes =>
            intro hc h9 tk9 F9 N9
            clear hH
            k_steps
            unfold NxStop
            have hfm : 0 ≤ (3 * x.k.fdiv 3 + 3 + (i : Int)).fmod 3 ∧ (3 * x.k.fdiv 3 + 3 + (i : Int)).fmod 3 < 3 := by rw [Int.fmod_eq_emod_of_nonneg _ (by omega)]; omega
            have hfd : 0 ≤ (3 * x.k.fdiv 3 + 3 + (i : Int)).fdiv 3 + 1 ∧ (3 * x.k.fdiv 3 + 3 + (i : Int)).fdiv 3 + 1 < 10 := by rw [Int.fdiv_eq_ediv_of_nonneg (3 * x.k.fdiv 3 + 3 + (i : Int)) (by omega)]; omega
            rename Fr _ _ _ _ => F9
            refine sub_base F9 he hfm.1 (by omega) hEi ?_
            k_steps
            unfold NxStop
            rename Fr _ _ _ _ => F9
            refine sub_base F9 hr hfd.1 (by omega) hRi ?_
            k_steps
            unfold NxStop
            rename Fr _ _ _ _ => F9
            rename News _ _ _ _ => N9
            rename_i T h9 l9
            have N9' := news_third N9
            have off9 : ∀ o1 o2, ∀ p ∈ (T, o1) :: (I, o2) :: (fd, W.listOf (strValues fn).toArray c2) :: Wl5, p.1 ≠ q := fun o1 o2 => all_cons (Nat.ne_of_gt l9.2.1) (all_cons (Ne.symm (off8 _ List.mem_cons_self)) (all_cons (Ne.symm hqf) oq5))
            have N9q : News g' L h9 [_] := fun p hp => N9' p (by rw [List.mem_singleton.mp hp]; exact List.mem_cons_self)
            refine wp_callG (r := 1) (by omega) ?_
            refine c_push (q := q) (x := ⟨T, _, _, _, _, _, _⟩) rfl (cx_callG B1 X1 T1 F9 N9q rfl rfl) (N9q _ List.mem_cons_self).1 (fun p hp => hideAll_get _ (N9 _ (List.mem_cons_of_mem _ (List.mem_cons_of_mem _ (List.mem_cons_of_mem _ (List.mem_cons_of_mem _ (hW5 p hp)))))).1 (fun hm => oq5 _ (hW5 p hp) (List.mem_singleton.mp hm))) (hideAll_get _ (N9 _ List.mem_cons_self).1 (fun hm => Nat.ne_of_gt l9.2.1 (List.mem_singleton.mp hm))) (by omega) fun h10 tk10 k10 hq10 => ?_
            have F10 := fr_after F9 N9q k10
            have N10 := news_after N9' (off9 _ _) k10 hq10
            k_steps
            refine post_of hQ2 ?_
            show FEnd _ _ _ _ _ _ _
            exact push_end F10 N10 (by walk_at "nx_hv") (by walk_at "nx_hv") (by walk_at "nx_hv") (by walk_at "nx_hv") (by walk_at "nx_hv") (by walk_at "nx_hv") (by walk_at "nx_hv") hqf oq5 ofd5 hW5 (fun p hp => off8 p (List.mem_cons_of_mem _ (List.mem_cons_of_mem _ hp))) (off8 _ List.mem_cons_self) (off8 _ (List.mem_cons_of_mem _ List.mem_cons_self)) ⟨l9.1, l9.2.1, l9.2.2.1⟩ hd5 hl5 hc rfl
end
end Mine
end
section
open PySem PySem.W PyProof.Rows
theorem Mine.anew9 {M : Model} {A : Around} {env : Env} {Q : Flow → Shared → Prop} {E : Value → Shared → Prop} {s : Shared} (h : wpAny M A (execs [] env) Q E s) : wpAny M A (execs [] env) Q E s := by first | (walk1; done) | exact h
end
section
open PySem PySem.W PyProof.Rows PySem.Calls
set_option maxHeartbeats 1000000
namespace Mine
section
variable {prog : Program} {w : World} {mean : ExcName → Option Value} {mg mb : Str → Option Value} {r : Nat} {base : Heap} {outer : List Env} {s : Shared}
/-- entering a def that has cells -/
theorem enterC {R : Result → Shared → Prop} {name qual : Str} {params : Arguments} {body : List Stmt} {scope : Scope} {dV kV doc pm cdv ct oc : Value} {an od : Option Addr} {osl : Array (Option Value)} {f : Addr} {args : Args} (binds : List (Str × Value))
    (C : Cx w mean mg mb r base outer s.heap)
    (ho : (Mine.hd.heap_1 w.params).lookup f = some ⟨oc, od, .func (fnOf name qual params body scope dV kV doc pm an cdv ct), osl⟩) (hcd : codeIn (Mine.hd.heap_1 w.params) cdv qual = true)
    (hbind : BindsTo s (fnOf name qual params body scope dV kV doc pm an cdv ct) args binds) (hkind : (binds.all fun y => scope.names.lookup y.1 == some .local || scope.names.lookup y.1 == some .cell) = true)
    (hnd : ((cellsFrom 0 scope.names []).map (·.1)).Nodup)
    (hco : scope.isCoroutine = false) (hgen : scope.isGenerator = false) (hk : scope.kind = .function)
    (h : ∀ g L' h₁ tk cells, g = s.heap → Fr g L' h₁ (bindL (envOfC qual scope L' f cdv).kindOf binds fun _ => none) → News g L' h₁ (cells ++ []) →
      CellsAre (bindC (envOfC qual scope L' f cdv).kindOf binds fun _ => none) (cellsFrom (L' + 1) scope.names []) cells → Below (AA r outer) base outer g → (Mine.hd.heap_1 w.params).In g → TopH mean mg mb g →
      wpAny (model prog w) ((AA r outer).deeper (envOfC qual scope L' f cdv)) (execs body (envOfC qual scope L' f cdv))
        (fun fl s' => R (.ok (.ret (match fl with | .ret v => v | _ => .none))) s') (fun _ _ => False)
        { s with heap := h₁, toks := tk }) : codeAny (model prog w) (AA r outer) (.call (.ref f) args) R s := by
  refine codeAny_call_function (by show 900 - 100 * r < 1000; omega) (C.X _ _ ho) rfl hco hgen rfl (codeRec_of C.X hcd) (hbind _ _ _ _ ?_)
  refine wpAny_newFunctionEnv_cells hk (kindsX hkind _) fun env' he s' x => ?_
  subst he
  refine ⟨C.T.nolimit.keeps x.toInCall.keep, codeAny_func ?_⟩
  obtain ⟨h₁, tk, rfl, _⟩ := x.done
  have hk₁ := x.toInCall.keep
  obtain ⟨cells, NC, Y⟩ := Cl.news (h₀ := s.heap) (Nat.le_refl _) fun n c hm => ⟨x.cell n c (lookup_of_mem_nodup (cellsFrom_names scope.names 0 (s.heap.objs.size + 1) [] [] rfl ▸ hnd) hm), x.above n c hm⟩
  refine wpAny_mono (h _ s.heap.objs.size h₁ tk cells rfl ⟨x.toInCall.ns, fun b o e => hk₁ b o e, Nat.le_refl _⟩ (fun p hp => ?_) Y C.B C.X C.T) (fun _ _ x => x) (fun _ _ x => x.elim)
  rw [List.append_nil] at hp
  exact NC p hp
end
end Mine
end
section
open PySem PySem.W PyProof.Rows PySem.Calls PyProof.Rows.LCg
set_option maxHeartbeats 4000000
namespace Mine
local macro_rules | `(tactic| walk_at $s:str) => wk "S=exec For Name Call cons nil|call ref|eval ListComp|storeName|setItem ref int|CompSrcT;ST=subscriptTail;HV=nx_hv;D=FPost;T=CompEnd;NX=eval Name" s
noncomputable def bothS (row : Str) : Str := Txt.join (Str.ofString "\r\n") ([Str.ofString "", row, Str.ofString ""].map sentRow)
noncomputable def qOK (a row b : Str) : Bool := decide (dotS (nrmS (a ++ row ++ b)) = bothS row)
noncomputable def hsOf (E R : Nat → Str) (n : Nat) : List Int := if n < 3 then [] else ((List.range 3).filter fun k => qOK (E k) (R (n / 3)) (E (n % 3))).map fun k => ((3 * (n / 3) - 3 + k : Nat) : Int)
noncomputable def OffH (L d a : Nat) : Prop := a ≠ d ∧ a ≠ L + 1 + 1 + 1 + 1 ∧ a ≠ L + 1 + 1 + 1 ∧ a ≠ L + 1 + 1 ∧ a ≠ L + 1
inductive HInv (w : World) (L d ra ea : Addr) (hs : Nat → List Int) (i : Nat) (m : Loc) (nw : Led) : Prop
  | out (oB oR oN oE od : Obj) (la : Nat → Addr) (hv : Nat → List Value) (cc : Nat → Nat) (Wl : Led) (vB vR vN : Option Value) (z1 : m (Str.ofString "heads") = some (.ref d)) (z2 : m (Str.ofString "rows") = some (.ref ra)) (z3 : nw = (d, od) :: (L + 1 + 1 + 1 + 1, oB) :: (L + 1 + 1 + 1, oR) :: (L + 1 + 1, oN) :: (L + 1, oE) :: Wl) (z4 : oB.data = .cell vB) (z5 : oR.data = .cell vR) (z6 : oN.data = .cell vN) (z7 : oE.data = .cell (some (.ref ea))) (z8 : od.IsDictOf (intKind Challenge.rw_ny0273_01.row.prog w) ((List.range (3 + i)).map fun j : Nat => ((j : Int), Value.ref (la j)))) (z9 : (∀ j, j < 3 + i → (la j, W.listOf (hv j).toArray (cc j)) ∈ Wl ∧ IntsAre (hv j) (hs j))) (z10 : (∀ p ∈ Wl, OffH L d p.1)) : HInv w L d ra ea hs i m nw
theorem news_h0 {h₀ h : Heap} {L : Addr} {a b c d e1 e2 e3 e4 : Addr × Obj} (N : News h₀ L h [a, b, c, d, e1, e2, e3, e4]) : News h₀ L h (d :: e1 :: e2 :: e3 :: e4 :: [a, b, c]) := pickn N [3, 4, 5, 6, 7, 0, 1, 2]
noncomputable def hpre (E R : Nat → Str) (n k : Nat) : List Int := ((List.range k).filter fun k => qOK (E k) (R (n / 3)) (E (n % 3))).map fun k => ((3 * (n / 3) - 3 + k : Nat) : Int)
structure CInv (E R : Nat → Str) (n : Nat) (nw0 : Led) (k : Nat) (ys : List Value) (nw : Led) : Prop where
  same : nw = nw0
  pre : IntsAre ys (hpre E R n k)
theorem ints_snoc : ∀ {ys : List Value} {ns : List Int} {n : Int} {t : Tok}, IntsAre ys ns → IntsAre (ys ++ [.int n t]) (ns ++ [n])
  | _, _, _, _, .nil => .cons _ _ .nil
  | _, _, _, _, .cons a u h => .cons a u (ints_snoc h)
theorem hpre_yes {E R : Nat → Str} {n k : Nat} (h : qOK (E k) (R (n / 3)) (E (n % 3)) = true) : hpre E R n (k + 1) = hpre E R n k ++ [((3 * (n / 3) - 3 + k : Nat) : Int)] := by
  unfold hpre; rw [List.range_succ, List.filter_append, List.map_append]; simp [h]
theorem hpre_no {E R : Nat → Str} {n k : Nat} (h : qOK (E k) (R (n / 3)) (E (n % 3)) = false) : hpre E R n (k + 1) = hpre E R n k := by
  unfold hpre; rw [List.range_succ, List.filter_append, List.map_append]; simp [h]
theorem hpre_hs {E R : Nat → Str} {i : Nat} : hpre E R (3 + i) 3 = hsOf E R (3 + i) := by unfold hsOf; rw [if_neg (by omega)]; rfl
theorem stored_range {la : Nat → Addr} {n : Nat} {D : Addr} : stored ((List.range n).map fun j : Nat => ((j : Int), Value.ref (la j))) (n : Int) (.ref D) = (List.range (n + 1)).map fun j : Nat => ((j : Int), Value.ref (if j = n then D else la j)) := by
  unfold stored
  rw [if_neg, List.range_succ, List.map_append]
  · congr 1
    · refine List.map_congr_left fun j hj => ?_
      rw [if_neg (Nat.ne_of_lt (List.mem_range.mp hj))]
    · simp
  · simp only [List.any_map, List.any_eq_true, List.mem_range, Function.comp, decide_eq_true_eq, not_exists, not_and]
    intro j hj e
    omega
section
variable {w : World} {mean : ExcName → Option Value} {mg mb : Str → Option Value} {base : Heap} {outer : List Env} {g : Heap} {gs : Array GenState} {dr : Drawn} {tk : Nat} {os : OsState} {Q E : Value → Shared → Prop}
theorem c_heads (C : Cx w mean mg mb 3 base outer g) {ra ea : Addr} {r0 r1 r2 r3 e0 e1 e2 : Str} {t0 t1 t2 t3 u0 u1 u2 : Tok}
   (hr : g.IsList ra [.str r0 t0, .str r1 t1, .str r2 t2, .str r3 t3].toArray) (he : g.IsList ea [.str e0 u0, .str e1 u1, .str e2 u2].toArray)
   (l0 : r0.length ≤ 2) (l1 : r1.length ≤ 2) (l2 : r2.length ≤ 2) (l3 : r3.length ≤ 2) (k0 : e0.length ≤ 2) (k1 : e1.length ≤ 2) (k2 : e2.length ≤ 2)
   {E' R' : Nat → Str} (hE : ∀ i, i < 3 → E' i = [e0, e1, e2].getD i ⟨#[]⟩) (hR : ∀ i, i < 4 → R' i = [r0, r1, r2, r3].getD i ⟨#[]⟩)
   (ret : ∀ D la hv Wt h' tk', Keeps g h' → (∀ p ∈ (Wt : Led), h'.get? p.1 = some p.2 ∧ g.get? p.1 = none) → (∀ h : Heap, (∀ p ∈ (Wt : Led), h.get? p.1 = some p.2) → Heads w h D la hv (hsOf E' R')) → (D == sysModules) = false → Q (.ref D) ⟨h', gs, dr, tk', os⟩) :
   wpAny (model Challenge.rw_ny0273_01.row.prog w) (AA 3 outer) (call (.ref 239) [.ref ra, .ref ea]) Q E ⟨g, gs, dr, tk, os⟩ := by
  have X := C.X; revert X; k_fill; intro X
  refine wpAny_call ?_
  refine' enterC [(Str.ofString "rows", .ref ra), (Str.ofString "ends", .ref ea)] C ?ho ?hcd ?hb ?hl ?c4 ?c1 ?c2 ?c3 ?_
  k_dflt ((case ho => k_is); (case hcd => k_is); (case hb => exact BindsTo.of_eq rfl); (case c4 => decide +kernel); (case hl => exact rfl); (case c1 => exact rfl); (case c2 => exact rfl); (case c3 => exact rfl); k_whole)
  intro g' L h1 tk1 cells eg F1 N1 Y1 B1 X1 T1
  obtain rfl : g' = g := eg
  k_cells Y1
  simp only [List.cons_append, List.nil_append] at N1
  (try dsimp only)
  (try k_fold)
  k_steps
  unfold NxStop
  rename Fr _ _ _ _ => F2
  rename News _ _ _ _ => N2
  rename Obj.IsDictOf _ _ _ => hdo
  refine storeX_L F2 N2 fun h2 F2 N2 => ?_
  k_steps
  unfold NxStop
  rename Fr _ _ _ _ => F2
  rename News _ _ _ _ => N2
  rename_i oB oR oN oE dB dR dN dE d _ _ lo _ ld la0 _ ll0 la1 _ ll1 la2 _ _ _ ll2 _ od _ _
  have hEz : (bindC (fun _ => none) [] (fun _ => none) (Str.ofString "ends") : Option Value) = none := rfl
  refine for_range (h₀ := g') (L := L) (a := 3) (b := 9) (n := 6) rfl (by decide) (by decide) (fun _ => rfl) (HInv w L d ra ea (hsOf E' R')) ?_
  k_steps
  unfold NxStop
  rename Fr _ _ _ _ => F2
  rename News _ _ _ _ => N2
  refine ⟨_, _, _, _, _, _, rfl, by assumption, F2, news_h0 N2, ?g0, fun gg => ⟨?trn, ?fin⟩⟩
  case g0 =>
    refine ⟨oB, oR, oN, oE, od, fun j => if j = 0 then la0 else if j = 1 then la1 else la2, fun _ => [], fun _ => 0, _, _, _, _, ?p1, ?p2, rfl, dB, dR, dN, dE, hdo, fun j hj => ?pj, all_cons ⟨Nat.ne_of_gt ll2.2.2.1, Nat.ne_of_gt ll2.2.2.2.1, Nat.ne_of_gt ll2.2.2.2.2.1, Nat.ne_of_gt ll2.2.2.2.2.2.1, Nat.ne_of_gt ll2.2.2.2.2.2.2⟩ (all_cons ⟨Nat.ne_of_gt ll1.2.1, Nat.ne_of_gt ll1.2.2.1, Nat.ne_of_gt ll1.2.2.2.1, Nat.ne_of_gt ll1.2.2.2.2.1, Nat.ne_of_gt ll1.2.2.2.2.2⟩ (all_cons ⟨Nat.ne_of_gt ll0.1, Nat.ne_of_gt ll0.2.1, Nat.ne_of_gt ll0.2.2.1, Nat.ne_of_gt ll0.2.2.2.1, Nat.ne_of_gt ll0.2.2.2.2⟩ all_nil))⟩
    case p1 => walk_at "nx_hv"
    case p2 => walk_at "nx_hv"
    case pj =>
      obtain rfl | rfl | rfl : j = 0 ∨ j = 1 ∨ j = 2 := by omega
      · exact ⟨List.mem_cons_of_mem _ (List.mem_cons_of_mem _ List.mem_cons_self), .nil⟩
      · exact ⟨List.mem_cons_of_mem _ List.mem_cons_self, .nil⟩
      · exact ⟨List.mem_cons_self, .nil⟩
  case fin =>
    rintro m nw h tk ⟨oB, oR, oN, oE, od, la, hv, cc, Wl, vB, vR, vN, m1, m2, rfl, dB, dR, dN, dE, hdo, hls, hgt⟩ F8 N8
    k_steps
    dsimp only
    have N9 := pick N8 [0] 5
    exact ret d la hv ((d, od) :: Wl) h tk F8.keep (fun p hp => ⟨(N9 p hp).1, (N9 p hp).2.2⟩) (fun h' hh => ⟨Heap.dictOf_iff.mpr ⟨od, hh _ List.mem_cons_self, hdo⟩, fun j hj => ⟨PySem.IsL.isList (n := cc j) (hh _ (List.mem_cons_of_mem _ (hls j hj).1)), (hls j hj).2⟩⟩) lo
  case trn =>
    rintro I i m nw oI t h tk hi ⟨oB, oR, oN, oE, od, la, hv, cc, Wl, vB, vR, vN, m1, m2, rfl, dB, dR, dN, dE, hdo, hls, hgt⟩ F8 N8 off8
    refine hide_turn fun Q1 hQ1 => ?_
    clear ret
    have oI1 := off8 _ List.mem_cons_self
    have oI2 := off8 _ (List.mem_cons_of_mem _ List.mem_cons_self)
    have oI3 := off8 _ (List.mem_cons_of_mem _ (List.mem_cons_of_mem _ List.mem_cons_self))
    have oI4 := off8 _ (List.mem_cons_of_mem _ (List.mem_cons_of_mem _ (List.mem_cons_of_mem _ List.mem_cons_self)))
    have oI5 := off8 _ (List.mem_cons_of_mem _ (List.mem_cons_of_mem _ (List.mem_cons_of_mem _ (List.mem_cons_of_mem _ List.mem_cons_self))))
    dsimp only at oI1 oI2 oI3 oI4 oI5
    have gd : L + 4 < d := ld.1
    have ne : ∀ {a b : Nat}, (a < b ∨ b < a) → (a : Addr) ≠ (b : Addr) := fun h e => by omega
    k_steps
    unfold NxStop
    refine storeX_C F8 N8 rfl (.tail (Ne.symm oI4) (.tail (ne (by omega)) (.tail (ne (by omega)) (.tail (ne (by omega)) (.head ?u1))))) dN fun h9 oN' F9 N9 dN' => ?_
    case u1 => exact all_cons (ne (by omega)) fun p e => (hgt p e).2.2.2.1
    obtain ⟨tR, hRi, RL⟩ : ∃ tok, [Value.str r0 t0, .str r1 t1, .str r2 t2, .str r3 t3][((3 + (i : Int)).fdiv 3).toNat]? = some (.str (R' ((3 + i) / 3)) tok) ∧ (R' ((3 + i) / 3)).length ≤ 2 := by
      have : ((3 + (i : Int)).fdiv 3).toNat = (3 + i) / 3 := by rw [Int.fdiv_eq_ediv_of_nonneg (3 + (i : Int)) (by omega)]; omega
      rw [this, hR _ (by omega)]
      obtain e | e : (3 + i) / 3 = 1 ∨ (3 + i) / 3 = 2 := by omega
      · rw [e]; exact ⟨_, rfl, l1⟩
      · rw [e]; exact ⟨_, rfl, l2⟩
    obtain ⟨tE, hEi, EL⟩ : ∃ tok, [Value.str e0 u0, .str e1 u1, .str e2 u2][((3 + (i : Int)).fmod 3).toNat]? = some (.str (E' ((3 + i) % 3)) tok) ∧ (E' ((3 + i) % 3)).length ≤ 2 := by
      have : ((3 + (i : Int)).fmod 3).toNat = (3 + i) % 3 := by rw [Int.fmod_eq_emod_of_nonneg _ (by omega)]; omega
      rw [this, hE _ (by omega)]
      obtain e | e | e : (3 + i) % 3 = 0 ∨ (3 + i) % 3 = 1 ∨ (3 + i) % 3 = 2 := by omega
      · rw [e]; exact ⟨_, rfl, k0⟩
      · rw [e]; exact ⟨_, rfl, k1⟩
      · rw [e]; exact ⟨_, rfl, k2⟩
    have hfd : 0 ≤ (3 + (i : Int)).fdiv 3 ∧ (3 + (i : Int)).fdiv 3 < 10 := by rw [Int.fdiv_eq_ediv_of_nonneg _ (by omega)]; omega
    have hfm : 0 ≤ (3 + (i : Int)).fmod 3 ∧ (3 + (i : Int)).fmod 3 < 3 := by rw [Int.fmod_eq_emod_of_nonneg _ (by omega)]; omega
    k_steps
    unfold NxStop
    rename Fr _ _ _ _ => F10
    refine sub_base F10 hr hfd.1 (by omega) hRi ?_
    k_steps
    unfold NxStop
    rename Fr _ _ _ _ => F10
    rename News _ _ _ _ => N10
    refine storeX_C F10 N10 rfl (.tail (Ne.symm oI3) (.tail (ne (by omega)) (.tail (ne (by omega)) (.head ?u2)))) dR fun h11 oR' F11 N11 dR' => ?_
    case u2 => exact all_cons (ne (by omega)) (all_cons (ne (by omega)) fun p e => (hgt p e).2.2.1)
    k_steps
    unfold NxStop
    rename Fr _ _ _ _ => F12
    rename News _ _ _ _ => N12
    rename_i T h12 l12
    refine wp_callG (r := 0) (by omega) ?_
    refine c_sent (ra := T) (l := [(Str.ofString "", _), (R' ((3 + i) / 3), _), (Str.ofString "", _)]) (cx_callG (news := []) B1 X1 T1 F12 (fun _ h => nomatch h) rfl rfl) (PySem.IsL.isList (N12 _ List.mem_cons_self).1) (Nat.le_of_ble_eq_true rfl) ?z fun t13 h13 tk13 k13 => ?_
    case z =>
      exact all_cons (Nat.le_of_ble_eq_true rfl) (all_cons RL (all_cons (Nat.le_of_ble_eq_true rfl) all_nil))
    have F13 := F12.keeps k13
    have N13 := N12.grown k13
    obtain ⟨bth, hb⟩ : ∃ bth, bth = bothS (R' ((3 + i) / 3)) := ⟨_, rfl⟩
    rw [show Txt.join (Str.ofString "\r\n") (List.map (fun p : Str × Tok => sentRow p.1) [(Str.ofString "", _), (R' ((3 + i) / 3), _), (Str.ofString "", _)]) = bth from hb.symm]
    k_steps
    unfold NxStop
    refine storeX_C F13 N13 rfl (.tail (ne (.inr l12.2.2.1)) (.tail (Ne.symm oI2) (.tail (ne (by omega)) (.head ?u3)))) dB fun h14 oB' F14 N14 dB' => ?_
    case u3 => exact all_cons (ne (by omega)) (all_cons (ne (by omega)) (all_cons (ne (by omega)) fun p e => (hgt p e).2.1))
    k_steps
    unfold NxStop
    rename Fr _ _ _ _ => F15
    rename News _ _ _ _ => N15
    refine LCt.ListComp_T F15 (by rfl) (by decide) (by rfl) (by decide) (by rfl) ?_
    k_steps
    unfold NxStop
    rename Fr _ _ _ _ => F16
    rename News _ _ _ _ => N16
    refine LCt.CompSrcT.range rfl F16 N16 (by assumption) (by decide) (n := 3) (by decide) (by rw [sizeLine_eq]; omega) fun g16 => ?_
    refine comp_indT (CInv E' R' (3 + i) _) 3 ?turn ?fin _ 0 [] _ rfl ⟨rfl, .nil⟩
    case turn =>
      rintro k ys nw v I2 oI2' C2 oC2 D2 m₂ h17 tk17 E2 hk3 ⟨rfl, hys⟩ ⟨tv, rfl⟩ hC hx F17 N17 off17 ne17
      obtain ⟨tK, hKi, KL⟩ : ∃ tok, [Value.str e0 u0, .str e1 u1, .str e2 u2][(0 + (k : Int)).toNat]? = some (.str (E' k) tok) ∧ (E' k).length ≤ 2 := by
        have : (0 + (k : Int)).toNat = k := by omega
        rw [this, hE _ hk3]
        obtain rfl | rfl | rfl : k = 0 ∨ k = 1 ∨ k = 2 := by omega
        · exact ⟨_, rfl, k0⟩
        · exact ⟨_, rfl, k1⟩
        · exact ⟨_, rfl, k2⟩
      k_steps
      unfold NxStop
      refine sub_base F17 he (by omega) (by omega) hKi ?_
      k_steps
      unfold NxStop
      rename Fr _ _ _ _ => F17
      refine sub_base F17 he hfm.1 (by omega) hEi ?_
      k_steps
      unfold NxStop
      rename Fr _ _ _ _ => F18
      rename News _ _ _ _ => N18
      refine wp_callG (r := 0) (by omega) ?_
      refine c_quote (cx_callG (news := []) B1 X1 T1 F18 (fun _ h => nomatch h) rfl rfl) _ _ (by rw [Str.length_append, Str.length_append]; omega) fun t19 h19 tk19 k19 => ?_
      have F19 := F18.keeps k19
      have N19 := N18.grown k19
      k_steps
      · unfold NxStop
        rename (dotS _ == bth) = true => hq
        rename Fr _ _ _ _ => F20
        rename News _ _ _ _ => N20
        have hq' : qOK (E' k) (R' ((3 + i) / 3)) (E' ((3 + i) % 3)) = true := by unfold qOK; rw [← hb]; simpa using hq
        refine CompEnd.intro F20 N20 _ (fun p hp => hp) off17 trivial ⟨rfl, ?_⟩
        rw [hpre_yes hq']
        have ev : (3 * (3 + (i : Int)).fdiv 3 - 3 + (0 + (k : Int))) = ((3 * ((3 + i) / 3) - 3 + k : Nat) : Int) := by rw [Int.fdiv_eq_ediv_of_nonneg _ (by omega)]; omega
        rw [ev]
        exact ints_snoc hys
      · unfold NxStop
        rename (dotS _ == bth) = false => hq
        rename Fr _ _ _ _ => F20
        rename News _ _ _ _ => N20
        have hq' : qOK (E' k) (R' ((3 + i) / 3)) (E' ((3 + i) % 3)) = false := by unfold qOK; rw [← hb]; simpa using hq
        refine CompEnd.intro F20 N20 _ (fun p hp => hp) off17 trivial ⟨rfl, ?_⟩
        rw [hpre_no hq']
        exact hys
    case fin =>
      rintro ys nw ⟨rfl, hys⟩
      intro D h20 tk20 F20 N20 off20
      k_steps
      unfold NxStop
      refine kda_set F20 N20 (.tail (Ne.symm off20.2.2.1) (.tail (ne (.inr l12.2.1)) (.tail (Ne.symm oI1) (.head ?u4)))) hdo (intKind_is _ _ _ _) ?z4 fun h21 od' F21 N21 hdo' => ?_
      case z4 => rw [List.length_map, List.length_range, sizeLine_eq]; omega
      case u4 => exact all_cons (ne (by omega)) (all_cons (ne (by omega)) (all_cons (ne (by omega)) (all_cons (ne (by omega)) fun p e => (hgt p e).1)))
      k_steps
      have hdo2 : od'.IsDictOf (intKind Challenge.rw_ny0273_01.row.prog w) ((List.range (3 + (i + 1))).map fun j : Nat => ((j : Int), Value.ref (if j = 3 + i then D else la j))) := by
        have e : (3 + (i : Int)) = ((3 + i : Nat) : Int) := by omega
        rw [e, stored_range] at hdo'
        exact hdo'
      refine post_of hQ1 ?_
      show FEnd _ _ _ _ _ _ _
      refine FEnd.intro F21 N21 ((d, od') :: (L + 1 + 1 + 1 + 1, oB') :: (L + 1 + 1 + 1, oR') :: (L + 1 + 1, oN') :: (L + 1, oE) :: (D, LCg.lst ys) :: Wl) (picks [2, 3, 4, 5, 6, 7, 0] 8) (all_cons oI1 (all_cons oI2 (all_cons oI3 (all_cons oI4 (all_cons oI5 (all_cons (Ne.symm off20.2.1) (fun p e => off8 p (.tail _ (.tail _ (.tail _ (.tail _ (.tail _ (e))))))))))))) ⟨oB', oR', oN', oE, od', fun j => if j = 3 + i then D else la j, fun j => if j = 3 + i then ys else hv j, fun j => if j = 3 + i then ys.length else cc j, _, _, _, _, m1, m2, rfl, dB', dR', dN', dE, hdo2, fun j hj => ?pj, fun p hp => ?po⟩
      case pj =>
        try dsimp only
        by_cases e : j = 3 + i
        · rw [if_pos e, if_pos e, if_pos e, e, ← hpre_hs]
          exact ⟨List.mem_cons_self, hys⟩
        · rw [if_neg e, if_neg e, if_neg e]
          have := hls j (by omega)
          exact ⟨List.mem_cons_of_mem _ this.1, this.2⟩
      case po =>
        simp only [List.mem_cons] at hp
        rcases hp with e | e
        · rw [e]; exact ⟨Ne.symm off20.2.2.1, Ne.symm off20.2.2.2.1, Ne.symm off20.2.2.2.2.1, Ne.symm off20.2.2.2.2.2.1, Ne.symm off20.2.2.2.2.2.2.1⟩
        · exact hgt p e
end
end Mine
end
section
open PySem PySem.W PyProof.Rows
theorem Mine.anew10 {M : Model} {A : Around} {env : Env} {Q : Flow → Shared → Prop} {E : Value → Shared → Prop} {s : Shared} (h : wpAny M A (execs [] env) Q E s) : wpAny M A (execs [] env) Q E s := by first | (walk1; done) | exact h
end
section
open PySem PySem.W PyProof.Rows PySem.Calls PyProof.Rows.LCg
set_option maxHeartbeats 4000000
namespace Mine
/-- the sorter's own table of fields -/
noncomputable abbrev sDict (w : World) (k1 k2 k3 k4 : Tok) (d : Addr) (rv : Value) (po : Int) (t3 : Tok) (fi : Int) (t4 : Tok) : Obj :=
  W.dictOf [⟨PyData.keyHash w.params (Str.ofString "_node2info"), .str (Str.ofString "_node2info") k1, .ref d⟩, ⟨PyData.keyHash w.params (Str.ofString "_ready_nodes"), .str (Str.ofString "_ready_nodes") k2, rv⟩,
    ⟨PyData.keyHash w.params (Str.ofString "_npassedout"), .str (Str.ofString "_npassedout") k3, .int po t3⟩, ⟨PyData.keyHash w.params (Str.ofString "_nfinished"), .str (Str.ofString "_nfinished") k4, .int fi t4⟩] 4
local macro_rules | `(tactic| walk_at $s:str) => wk "S=setItem ref int" s
/-- a node's record -/
noncomputable abbrev infObj (di : Addr) (n : Int) (t : Tok) (np : Int) (t' : Tok) (si : Addr) : Obj := { cls := .ref 74, dict := some di, slots := #[some (.int n t), some (.int np t'), some (.ref si)] }
theorem keeps_back {g h' : Heap} {A : List Addr} (k : Keeps (hideAll g A) h') (s : ∀ x ∈ A, ∀ o, g.get? x = some o → h'.get? x = some o) : Keeps g h' := fun b o e => by
  by_cases hb : b ∈ A
  · exact s b hb o e
  · exact k b o (hideAll_get _ e hb)
section
variable {w : World} {mean : ExcName → Option Value} {mg mb : Str → Option Value} {base : Heap} {outer : List Env} {g : Heap} {gs : Array GenState} {dr : Drawn} {tk : Nat} {os : OsState} {Q E : Value → Shared → Prop}
theorem c_gni1 {S ds d : Addr} {g₀ : Heap} {k1 k2 k3 k4 t3 t4 : Tok} {rv : Value} {po fi n : Int} {t : Tok} {od : Obj} {kvs : List (Int × Value)} (e₀ : hideAll g [S, ds, d] = g₀) (C : Cx w mean mg mb 0 base outer g₀) (hS : g.get? S = some (instObj 171 ds)) (hds : g.get? ds = some (sDict w k1 k2 k3 k4 d rv po t3 fi t4)) (hd : g.get? d = some od)
   (hdo : od.IsDictOf (intKind Challenge.rw_ny0273_01.row.prog w) kvs) (lo : (d == sysModules) = false) {i : Addr} (hi : valueAt kvs n = some (.ref i)) (ne : @LT.lt Nat _ ds S ∧ @LT.lt Nat _ S d)
   (ret : ∀ h' tk', Keeps g h' → Q (.ref i) ⟨h', gs, dr, tk', os⟩) :
   wpAny (model Challenge.rw_ny0273_01.row.prog w) (AA 0 outer) (call (.ref 114) [.ref S, .int n t]) Q E ⟨g, gs, dr, tk, os⟩ := by
  have X := C.X; revert X; k_fill; intro X
  refine wpAny_call ?_
  refine' enter [(Str.ofString "node", .int n t), (Str.ofString "self", .ref S)] [(S, instObj 171 ds), (ds, sDict w k1 k2 k3 k4 d rv po t3 fi t4), (d, od)] (by subst e₀; exact C) (fun p hp => ?hh) ?ho ?hcd ?hb ?hl ?c1 ?c2 ?c3 ?c4 ?_
  case hh =>
    simp only [List.mem_cons, List.not_mem_nil, or_false] at hp
    rcases hp with e | e | e
    · rw [e]; exact hS
    · rw [e]; exact hds
    · rw [e]; exact hd
  k_dflt ((case ho => k_is); (case hcd => k_is); (case hb => exact BindsTo.of_eq rfl); (case c4 => decide); (case hl => exact locs rfl); (case c1 => exact rfl); (case c2 => exact rfl); (case c3 => exact rfl); k_whole)
  intro g' L h1 tk1 eg F1 N1 B1 X1 T1
  obtain rfl : g' = g₀ := eg.trans e₀
  obtain ⟨ne1, ne2⟩ := ne
  (try dsimp only)
  (try k_fold)
  k_steps
  refine kdg_get1 N1 (List.mem_cons_of_mem _ (List.mem_cons_of_mem _ List.mem_cons_self)) hdo lo (intKind_is _ _ _ _) _ hi ?_
  dsimp only [Option.getD]
  k_steps
  dsimp only
  rename Fr _ _ _ _ => F2
  rename News _ _ _ _ => N2
  refine ret _ _ (keeps_back (A := [S, ds, d]) (by rw [e₀]; exact F2.keep) fun x hx o e => ?_)
  simp only [List.mem_cons, List.not_mem_nil, or_false] at hx
  rcases hx with e' | e' | e'
  · subst e'; rw [hS] at e; injection e with e; subst e; exact (N2 _ (.head _)).1
  · subst e'; rw [hds] at e; injection e with e; subst e; exact (N2 _ (.tail _ (.head _))).1
  · subst e'; rw [hd] at e; injection e with e; subst e; exact (N2 _ (.tail _ (.tail _ (.head _)))).1
theorem c_gni2 {S ds d : Addr} {g₀ : Heap} {k1 k2 k3 k4 t3 t4 : Tok} {rv : Value} {po fi n : Int} {t : Tok} {od : Obj} {kvs : List (Int × Value)} (e₀ : hideAll g [S, ds, d] = g₀) (C : Cx w mean mg mb 1 base outer g₀) (hS : g.get? S = some (instObj 171 ds)) (hds : g.get? ds = some (sDict w k1 k2 k3 k4 d rv po t3 fi t4)) (hd : g.get? d = some od)
   (hdo : od.IsDictOf (intKind Challenge.rw_ny0273_01.row.prog w) kvs) (lo : (d == sysModules) = false) (hi : valueAt kvs n = none) (ne : @LT.lt Nat _ ds S ∧ @LT.lt Nat _ S d) (hz : kvs.length ≤ 100)
   (ret : ∀ i di si t' od' h' tk', Keeps g₀ h' → h'.get? S = some (instObj 171 ds) → h'.get? ds = some (sDict w k1 k2 k3 k4 d rv po t3 fi t4) → h'.get? d = some od' → od'.IsDictOf (intKind Challenge.rw_ny0273_01.row.prog w) (stored kvs n (.ref i)) →
     h'.get? i = some (infObj di n t 0 t' si) → h'.get? di = some (W.dictOf [] 0) → h'.get? si = some (W.listOf #[] 0) → @LT.lt Nat _ d di ∧ @LT.lt Nat _ di i ∧ @LT.lt Nat _ i si → g₀.get? i = none ∧ g₀.get? di = none ∧ g₀.get? si = none → Q (.ref i) ⟨h', gs, dr, tk', os⟩) :
   wpAny (model Challenge.rw_ny0273_01.row.prog w) (AA 1 outer) (call (.ref 114) [.ref S, .int n t]) Q E ⟨g, gs, dr, tk, os⟩ := by
  have X := C.X; revert X; k_fill; intro X
  refine wpAny_call ?_
  refine' enter [(Str.ofString "node", .int n t), (Str.ofString "self", .ref S)] [(S, instObj 171 ds), (ds, sDict w k1 k2 k3 k4 d rv po t3 fi t4), (d, od)] (by subst e₀; exact C) (fun p hp => ?hh) ?ho ?hcd ?hb ?hl ?c1 ?c2 ?c3 ?c4 ?_
  case hh =>
    simp only [List.mem_cons, List.not_mem_nil, or_false] at hp
    rcases hp with e | e | e
    · rw [e]; exact hS
    · rw [e]; exact hds
    · rw [e]; exact hd
  k_dflt ((case ho => k_is); (case hcd => k_is); (case hb => exact BindsTo.of_eq rfl); (case c4 => decide); (case hl => exact locs rfl); (case c1 => exact rfl); (case c2 => exact rfl); (case c3 => exact rfl); k_whole)
  intro g' L h1 tk1 eg F1 N1 B1 X1 T1
  obtain rfl : g' = g₀ := eg.trans e₀
  obtain ⟨ne1, ne2⟩ := ne
  (try dsimp only)
  (try k_fold)
  k_steps
  refine kdg_get1 N1 (List.mem_cons_of_mem _ (List.mem_cons_of_mem _ List.mem_cons_self)) hdo lo (intKind_is _ _ _ _) _ hi ?_
  dsimp only [Option.getD]
  k_steps
  unfold NxStop
  rename News g' L _ _ => N2
  rename Fr g' L _ _ => F2
  rename_i x' di _ _ _ l1 l2 _ _ _ _ _ _ _ _ _ _ si _ l3 _ _ _ _ _
  refine kda_set F2 N2 (.tail (neN (by dsimp only; omega)) (.tail (neN (by dsimp only; omega)) (.tail (neN (by dsimp only; omega)) (.tail (neN (by dsimp only; omega)) (.tail (neN (by dsimp only; omega)) (.head (List.forall_mem_nil _))))))) hdo (intKind_is _ _ _ _) (by rw [sizeLine_eq]; omega) fun h3 od' F3 N3 hdo' => ?_
  k_steps
  dsimp only
  rename Fr g' L _ _ => F4
  rename News g' L _ _ => N4
  exact ret x' di si _ od' _ _ F4.keep (N4 _ (.tail _ (.tail _ (.tail _ (.head _))))).1 (N4 _ (.tail _ (.tail _ (.tail _ (.tail _ (.head _)))))).1 (N4 _ (.tail _ (.tail _ (.tail _ (.tail _ (.tail _ (.head _))))))).1 hdo' (N4 _ (.tail _ (.head _))).1 (N4 _ (.tail _ (.tail _ (.head _)))).1 (N4 _ (.head _)).1 ⟨by omega, by omega, by omega⟩ ⟨(N4 _ (.tail _ (.head _))).2.2, (N4 _ (.tail _ (.tail _ (.head _)))).2.2, (N4 _ (.head _)).2.2⟩
end
end Mine
end
section
open PySem PySem.W PyProof.Rows
theorem Mine.anew11 {M : Model} {A : Around} {env : Env} {Q : Flow → Shared → Prop} {E : Value → Shared → Prop} {s : Shared} (h : wpAny M A (execs [] env) Q E s) : wpAny M A (execs [] env) Q E s := by first | (walk1; done) | exact h
end
section
open PySem PySem.W PyProof.Rows PySem.Calls
set_option maxHeartbeats 1000000
namespace Mine
/-- a tree that looks things up in the written part and then lays one object -/
theorem wp_lay1 {α : Type} {K : Frag} {M : Model} {A : Around} {E : Value → Shared → Prop} {Q : α → Shared → Prop} {s : Shared} {o : Obj} {r : Addr → α} (X : K.In s.heap)
    (q : Q (r s.heap.objs.size) { s with heap := s.heap.push o }) :
    ∀ (t : Sem α) (g : Addr → Option α), peek1 K ⟨M.prog, M.w.params⟩ t = some (o, g) → (∀ D, g D = some (r D)) → wpAny M A t Q E s := by
  intro t
  induction t with
  | rule _ k ih => intro g e hg Γ p hΓ; exact ih () g e hg Γ p hΓ
  | point _ k ih => intro g e hg Γ p hΓ; exact ih () g e hg Γ p hΓ
  | ask k ih => intro g e hg Γ p hΓ; exact ih _ g e hg Γ p hΓ
  | load a _ k ih =>
    intro g e hg Γ p hΓ
    simp only [peek1] at e
    split at e
    · rename_i ob ho; exact ⟨ob, X _ _ ho, ih ob g e hg Γ p hΓ⟩
    · cases e
  | alloc ob k _ =>
    intro g e hg
    obtain ⟨rfl, rfl⟩ := Prod.mk.inj (Option.some.inj (show some (ob, fun D => peek K ⟨M.prog, M.w.params⟩ (k D)) = some (o, g) from e))
    show wpAny M A (alloc ob >>= k) Q E s
    refine wpAny_bind (wpAny_alloc ?_)
    exact (Looks.of_peek (M := M) (h := s.heap.push ob) (X.keeps fun b x hb => Heap.get?_push_of_some _ hb) (hg s.heap.objs.size)).here (s := { s with heap := s.heap.push ob }) q
  | _ => intro g e; cases e
section
variable {prog : Program} {w : World} {mean : ExcName → Option Value} {mg mb : Str → Option Value} {r : Nat} {base : Heap} {outer : List Env} {s : Shared}
/-- entering a def that takes a rest of arguments -/
theorem enterV {R : Result → Shared → Prop} {name qual : Str} {params : Arguments} {body : List Stmt} {scope : Scope} {dV kV doc pm cdv ct oc : Value} {an od : Option Addr} {osl : Array (Option Value)} {f : Addr} {args : Args} (vs : List Value) (rb : Addr → List (Str × Value)) {g₁ : Addr → Option (List (Str × Value))}
    (hides : List (Addr × Obj)) (C : Cx w mean mg mb r base outer (hideAll s.heap (hides.map (·.1)))) (hN : ∀ p ∈ hides, s.heap.get? p.1 = some p.2)
    (ho : (Mine.hd.heap_1 w.params).lookup f = some ⟨oc, od, .func (fnOf name qual params body scope dV kV doc pm an cdv ct), osl⟩) (hcd : codeIn (Mine.hd.heap_1 w.params) cdv qual = true)
    (hp : peek1 (Mine.hd.heap_1 w.params) ⟨prog, w.params⟩ (bindArgs (fnOf name qual params body scope dV kV doc pm an cdv ct) args) = some (({ cls := .type "tuple", data := .seq vs.toArray } : Obj), g₁))
    (hg : ∀ D, g₁ D = some (rb D).reverse) (hloc : ∀ D, ∀ y ∈ (rb D).reverse, scope.names.lookup y.1 = some .local)
    (hco : scope.isCoroutine = false) (hgen : scope.isGenerator = false) (hk : scope.kind = .function)
    (hcell : ∀ x ∈ scope.names, x.2 ≠ .cell)
    (h : ∀ D g L' h₁ tk₁, (∀ p ∈ hides, @LT.lt Nat _ p.1 D) → g = hideAll s.heap (hides.map (·.1)) → Fr g L' h₁ (fun y => (rb D).lookup y) → News g L' h₁ ((D, ({ cls := .type "tuple", data := .seq vs.toArray } : Obj)) :: hides) → Below (AA r outer) base outer g → (Mine.hd.heap_1 w.params).In g → TopH mean mg mb g →
      wpAny (model prog w) ((AA r outer).deeper (envOf qual scope L' f cdv)) (execs body (envOf qual scope L' f cdv))
        (fun fl s' => R (.ok (.ret (match fl with | .ret v => v | _ => .none))) s') (fun _ _ => False)
        { s with heap := h₁, toks := tk₁ }) : codeAny (model prog w) (AA r outer) (.call (.ref f) args) R s := by
  have st : Keeps (hideAll s.heap (hides.map (·.1))) s.heap := fun b o e => of_hideAll _ e
  refine codeAny_call_function (fd := fnOf name qual params body scope dV kV doc pm an cdv ct) (body := body) (by show 900 - 100 * r < 1000; omega) (C.X.keeps st _ _ ho) rfl hco hgen rfl (codeRec_of (C.X.keeps st) hcd) ?_
  refine wp_lay1 (o := ({ cls := .type "tuple", data := .seq vs.toArray } : Obj)) (C.X.keeps st) (r := fun D => (rb D).reverse) ?_ _ g₁ hp hg
  have up : ∀ b o, s.heap.get? b = some o → (s.heap.push ({ cls := .type "tuple", data := .seq vs.toArray } : Obj)).get? b = some o := fun b o e => Heap.get?_push_of_some _ e
  refine wpAny_newFunctionEnv hcell (hloc _) (fun h₁ hns hsb => ⟨((C.T.nolimit.keeps st).keeps up).fresh _ hsb, codeAny_func ?_⟩) hk
  have hk₁ : ∀ b o, (s.heap.push ({ cls := .type "tuple", data := .seq vs.toArray } : Obj)).get? b = some o → h₁.get? b = some o := fun b o e => hsb.extBut b o (Nat.ne_of_lt (Heap.lt_size e)) (Heap.get?_push_of_some _ e)
  rw [List.reverse_reverse] at hns
  have hD : (s.heap.push ({ cls := .type "tuple", data := .seq vs.toArray } : Obj)).get? s.heap.objs.size = some { cls := .type "tuple", data := .seq vs.toArray } := Heap.get?_push_size _ rfl
  have sz : (s.heap.push ({ cls := .type "tuple", data := .seq vs.toArray } : Obj)).objs.size = s.heap.objs.size + 1 := by simp [Heap.push]
  refine wpAny_mono (h s.heap.objs.size _ _ h₁ _ (fun p hp => Heap.lt_size (hN p hp)) rfl ⟨hns, fun b o e => hk₁ b o (up b o (of_hideAll _ e)), ?_⟩ (fun p hp => ?_) C.B C.X C.T) (fun _ _ x => x) (fun _ _ x => x.elim)
  · have := hideAll_size (hides.map (·.1)) s.heap; rw [sz]; exact Nat.le_succ_of_le (Nat.le_of_eq this)
  · rcases List.mem_cons.mp hp with e | hp
    · rw [e]
      refine ⟨hk₁ _ _ hD, Nat.ne_of_lt (Heap.lt_size hD), ?_⟩
      cases q : (hideAll s.heap (hides.map (·.1))).get? s.heap.objs.size with
      | none => rfl
      | some o => exact absurd (Heap.lt_size (of_hideAll _ q)) (Nat.lt_irrefl _)
    · exact ⟨hk₁ _ _ (up _ _ (hN p hp)), Nat.ne_of_lt (Heap.lt_size (up _ _ (hN p hp))), hideAll_none _ (List.mem_map_of_mem hp)⟩
end
end Mine
end
section
open PySem PySem.W PyProof.Rows PySem.Calls PyProof.Rows.LCg
set_option maxHeartbeats 1000000
namespace Mine
section
variable {prog : Program} {w : World} {A : Around} {s : Shared} {h₀ : Heap} {L : Addr} {env : Env} {Q : Flow → Shared → Prop}
/-- a for with one name over a tuple of the ledger -/
theorem for_tup {x : Str} {px : Pos} {iter : PySem.Expr} {body : List Stmt} {pos : Pos} {its : Array Value} (hh : A.handled = none) (hs : ∀ x, foldedSetIterable iter env x = pure x) (G : Nat → Loc → Led → Prop)
    (h : wpAny (model prog w) A (eval iter env) (fun xv s₁ => NxStop <| ForGo h₀ L G (fun ax nw => (ax, ({ cls := .type "tuple", data := .seq its } : Obj)) ∈ nw) (fun g =>
      (∀ I i v m nw oI h tk, its[i]? = some v → G i m nw → Fr h₀ L h m → News h₀ L h ((I, oI) :: nw) → (∀ p ∈ nw, p.1 ≠ I) →
        wpAny (model prog w) A (assign (.Name x px) env v) (fun _ s₂ => wpAny (model prog w) A (execs body env) (FPost h₀ L { s₁ with heap := g } I oI (G (i + 1)) Q) (fun _ _ => False) s₂) (fun _ _ => False) { s₁ with heap := h, toks := tk }) ∧
      (∀ m nw h tk, G its.size m nw → Fr h₀ L h m → News h₀ L h nw → Q .next { s₁ with heap := h, toks := tk })) xv s₁.heap) (fun _ _ => False) s) :
    wpAny (model prog w) A (exec (.For (.Name x px) iter body [] pos) env) Q (fun _ _ => False) s := by
  refine wpAny_For (wpAny_mono h (fun xv s₁ h₁ => ?_) fun _ _ x => x.elim) hs
  obtain ⟨ax, m, nw, rfl, F, N, hG, hS, rest⟩ := h₁
  have at_ : ∀ {h : Heap} {nw : Led}, News h₀ L h nw → (ax, ({ cls := .type "tuple", data := .seq its } : Obj)) ∈ nw → h.IsTuple ax its := fun N hm => ⟨_, (N _ hm).1, rfl, _, rfl⟩
  have hl := at_ N (hS _ _ _ hG)
  have hlt : ax < s₁.heap.objs.size := by obtain ⟨_, e, _⟩ := hl; exact Heap.lt_size e
  refine wpAny_pyIter_tuple hl ?_
  have up : ∀ b o, s₁.heap.get? b = some o → (s₁.heap.push { cls := .type "tuple_iterator", data := .fields #[.ref ax, .int 0 0] }).get? b = some o := fun b o e => Heap.get?_push_of_some _ e
  obtain ⟨turn, fin⟩ := rest (s₁.heap.push { cls := .type "tuple_iterator", data := .fields #[.ref ax, .int 0 0] })
  refine for_gen (S := fun nw => (ax, ({ cls := .type "tuple", data := .seq its } : Obj)) ∈ nw) (Walks.tuple hh s₁.heap.objs.size ax (Nat.ne_of_lt hlt) its) (fun i h st => by obtain ⟨o, e, _⟩ := st.1; exact ⟨o, e⟩) (fun i h h' o nw st e e' k N S => ⟨by obtain ⟨o', q, r⟩ := st.1; rw [e] at q; cases q; exact ⟨o, e', r⟩, at_ N S⟩) (fun i v s' Q' E' _ hq => wpAny_pure hq) G hS ⟨⟨_, Heap.get?_push_size _ rfl, rfl, rfl⟩, at_ (N.grown up) (hS _ _ _ hG)⟩ (F.keeps up) (N.grown up) (Nat.ne_of_lt F.ns.lt) (next_is_new F) (fun p hp => Nat.ne_of_lt (Heap.lt_size (N p hp).1)) hG ?_ ?_
  · intro i v m nw oI h tk hi hv hG F N off
    exact turn _ i v m nw oI h tk hv hG F N off
  · exact fin
end
section
variable {g h h' : Heap} {L : Addr} {m : Loc} {nw nw' : Led} {A : List Addr}
/-- after a call that was handed the things at A to change -/
theorem fr_hide (F : Fr g L h m) (N : News g L h nw) (hA : ∀ x ∈ A, ∃ o, (x, o) ∈ nw) (k : Keeps (hideAll h A) h') : Fr g L h' m := by
  refine ⟨F.ns.at' fun o' e => k _ _ (hideAll_get _ e fun hm => ?_), fun b o' e => k _ _ (hideAll_get _ (F.keep b o' e) fun hm => ?_), F.above⟩
  · obtain ⟨o, ho⟩ := hA _ hm; exact (N _ ho).2.1 rfl
  · obtain ⟨o, ho⟩ := hA _ hm; have := (N _ ho).2.2; rw [e] at this; cases this
noncomputable def Stays (h h' : Heap) (nw : Led) (A : List Addr) (p : Addr × Obj) : Prop := (p ∈ nw ∧ p.1 ∉ A) ∨ ((∃ o, (p.1, o) ∈ nw) ∧ h'.get? p.1 = some p.2) ∨ (h'.get? p.1 = some p.2 ∧ (hideAll h A).get? p.1 = none ∧ p.1 ∉ A)
theorem Stays.hid {h h' : Heap} {nw : Led} {A : List Addr} {p : Addr × Obj} (inA : ∀ x ∈ A, ∃ o, (x, o) ∈ nw) (z : h'.get? p.1 = some p.2 ∧ (hideAll h A).get? p.1 = none) : Stays h h' nw A p := by
  by_cases hA : p.1 ∈ A
  · exact .inr (.inl ⟨inA _ hA, z.1⟩)
  · exact .inr (.inr ⟨z.1, z.2, hA⟩)
theorem off_hid {g h : Heap} {L : Addr} {nw : Led} {A : List Addr} {a x : Addr} {o : Obj} (N : News g L h nw) (m : (x, o) ∈ nw) (nA : x ∉ A) (z : (hideAll h A).get? a = none) : a ≠ x := fun e => by rw [e, hideAll_get _ (N _ m).1 nA] at z; cases z
theorem in_map {Wl nw : Led} (h : ∀ p ∈ Wl, p ∈ nw) : ∀ x ∈ Wl.map (·.1), ∃ o, (x, o) ∈ nw := fun x hx => by
  obtain ⟨p, hp, e⟩ := List.mem_map.mp hx
  exact ⟨p.2, by rw [← e]; exact h p hp⟩
theorem not_map {Wl : Led} {x : Addr} (h : ∀ q ∈ Wl, q.1 ≠ x) : x ∉ Wl.map (·.1) := fun hx => by
  obtain ⟨p, hp, e⟩ := List.mem_map.mp hx
  exact h p hp e
theorem all_app {α : Type} {P : α → Prop} {l r : List α} (h : ∀ p ∈ l, P p) (k : ∀ p ∈ r, P p) : ∀ p ∈ l ++ r, P p := fun p hp => (List.mem_append.mp hp).elim (h p) (k p)
theorem news_hide (F : Fr g L h m) (N : News g L h nw) (k : Keeps (hideAll h A) h') (s : ∀ p ∈ nw', Stays h h' nw A p) : News g L h' nw' := fun p hp => by
  rcases s p hp with ⟨a, b⟩ | ⟨⟨o, a⟩, b⟩ | ⟨a, b, c⟩
  · exact ⟨k _ _ (hideAll_get _ (N p a).1 b), (N p a).2⟩
  · exact ⟨b, (N _ a).2⟩
  · refine ⟨a, fun e => ?_, ?_⟩
    · obtain ⟨o, _, _, hL, _⟩ := F.ns
      rw [e] at b c
      rw [hideAll_get _ hL c] at b; cases b
    · cases q : g.get? p.1 with
      | none => rfl
      | some o => rw [hideAll_get _ (F.keep _ _ q) c] at b; cases b
/-- a ledger with the thing at a changed -/
noncomputable def repl (a : Addr) (o : Obj) (W : Led) : Led := W.map fun p => if p.1 = a then (a, o) else p
theorem repl_cons {a : Addr} {o : Obj} {p : Addr × Obj} {W : Led} (h : p.1 ≠ a) : repl a o (p :: W) = p :: repl a o W := by unfold repl; rw [List.map_cons, if_neg h]
theorem repl_mem {a : Addr} {o o' : Obj} {W : Led} (h : (a, o') ∈ W) : (a, o) ∈ repl a o W := List.mem_map.mpr ⟨_, h, if_pos rfl⟩
theorem repl_keep {a : Addr} {o : Obj} {p : Addr × Obj} {W : Led} (h : p ∈ W) (hn : p.1 ≠ a) : p ∈ repl a o W := List.mem_map.mpr ⟨_, h, if_neg hn⟩
theorem repl_off {a : Addr} {o o' : Obj} {W : Led} {P : Addr → Prop} (hm : (a, o') ∈ W) (h : ∀ p ∈ W, P p.1) : ∀ p ∈ repl a o W, P p.1 := fun p hp => by
  obtain ⟨q, hq, rfl⟩ := List.mem_map.mp hp
  by_cases e : q.1 = a
  · rw [if_pos e]; exact h (a, o') hm
  · rw [if_neg e]; exact h q hq
theorem news_repl {a : Addr} {o o' : Obj} (N : News g L h nw) (hm : (a, o) ∈ nw) (hs : Heap.SameBut a h h') (ho : h'.get? a = some o') : News g L h' (repl a o' nw) := fun p hp => by
  obtain ⟨q, hq, rfl⟩ := List.mem_map.mp hp
  by_cases e : q.1 = a
  · rw [if_pos e]; exact ⟨ho, (N _ hm).2⟩
  · rw [if_neg e]; exact ⟨(hs.2 _ e).trans (N q hq).1, (N q hq).2⟩
end
end Mine
end
local macro_rules | `(tactic| k_mem) => `(tactic| assumption)
local macro_rules | `(tactic| k_all) => `(tactic| assumption)
section
open PySem PySem.W PyProof.Rows PySem.Calls PyProof.Rows.LCg
set_option maxHeartbeats 4000000
namespace Mine
/-- where the sorter's things lie -/
structure Lay where
  S : Addr
  ds : Addr
  d : Addr
  ia : Nat → Addr
  da : Nat → Addr
  sa : Nat → Addr
noncomputable def Lay.ext (a : Lay) (n : Nat) (i di si : Addr) : Lay := { a with ia := fun j => if j = n then i else a.ia j, da := fun j => if j = n then di else a.da j, sa := fun j => if j = n then si else a.sa j }
structure TsM (a : Lay) (n : Nat) (np : Nat → Int) (sc : Nat → List Int) (Wl : Led) : Prop where
  inf : ∀ j, j < n → (∃ t t', (a.ia j, infObj (a.da j) j t (np j) t' (a.sa j)) ∈ Wl) ∧ (a.da j, W.dictOf [] 0) ∈ Wl ∧ (∃ vs c, (a.sa j, W.listOf vs.toArray c) ∈ Wl ∧ IntsAre vs (sc j))
  inj : ∀ i j, i < n → j < n → i ≠ j → a.sa i ≠ a.sa j
  off : ∀ p ∈ Wl, p.1 ≠ a.S ∧ p.1 ≠ a.ds ∧ p.1 ≠ a.d
theorem short {α : Type} : ∀ (vs : List α), vs.length ≤ 3 → vs = [] ∨ (∃ x, vs = [x]) ∨ (∃ x y, vs = [x, y]) ∨ (∃ x y z, vs = [x, y, z])
  | [], _ => .inl rfl
  | [x], _ => .inr (.inl ⟨x, rfl⟩)
  | [x, y], _ => .inr (.inr (.inl ⟨x, y, rfl⟩))
  | [x, y, z], _ => .inr (.inr (.inr ⟨x, y, z, rfl⟩))
  | _ :: _ :: _ :: _ :: _, h => by simp at h
local macro_rules | `(tactic| walk_at $s:str) => wk "S=call ref|exec For Name Name cons nil|call builtin:list.append;HV=nx_hv;NM=eval Name;D=FPost" s
theorem ints_get : ∀ {vs : List Value} {ns : List Int} {k : Nat} {v : Value}, IntsAre vs ns → vs[k]? = some v → ∃ x t, ns[k]? = some x ∧ v = .int x t
  | _, _, 0, _, .cons n t _, h => by injection h with h; exact ⟨n, t, rfl, h.symm⟩
  | _, _, k + 1, _, .cons _ _ r, h => ints_get (k := k) r (by simpa using h)
/-- the lists of successors after the node n was named as the follower of each of ps -/
noncomputable def addSc (n : Nat) (ps : List Nat) (sc : Nat → List Int) : Nat → List Int := ps.foldl (fun f p => fun j => if j = p then f j ++ [(n : Int)] else f j) sc
theorem addSc_succ {n : Nat} {ps : List Nat} {sc : Nat → List Int} {k p : Nat} (h : ps[k]? = some p) : addSc n (ps.take (k + 1)) sc = fun j => if j = p then addSc n (ps.take k) sc j ++ [(n : Int)] else addSc n (ps.take k) sc j := by
  unfold addSc; rw [List.take_add_one, h]; simp [List.foldl_append]
theorem addSc_len {n : Nat} : ∀ {ps : List Nat} {sc : Nat → List Int} {j : Nat}, (addSc n ps sc j).length ≤ (sc j).length + ps.length
  | [], _, _ => Nat.le_refl _
  | p :: ps, sc, j => by
    show (addSc n ps _ j).length ≤ _
    refine Nat.le_trans addSc_len ?_
    by_cases e : j = p
    · simp [e]; omega
    · simp [e]
theorem ints_len : ∀ {vs : List Value} {ns : List Int}, IntsAre vs ns → vs.length = ns.length
  | _, _, .nil => rfl
  | _, _, .cons _ _ h => by rw [List.length_cons, List.length_cons, ints_len h]
theorem TsM.ext {a : Lay} {n : Nat} {np : Nat → Int} {sc : Nat → List Int} {Wl : Led} (M : TsM a n np sc Wl) {i di si : Addr} {t t' : Tok} {c : Int} (hi : ∀ p ∈ Wl, p.1 ≠ si) (oi : (i ≠ a.S ∧ i ≠ a.ds ∧ i ≠ a.d) ∧ (di ≠ a.S ∧ di ≠ a.ds ∧ di ≠ a.d) ∧ (si ≠ a.S ∧ si ≠ a.ds ∧ si ≠ a.d)) :
    TsM (a.ext n i di si) (n + 1) (fun j => if j = n then c else np j) (fun j => if j = n then [] else sc j) ((i, infObj di n t c t' si) :: (di, W.dictOf [] 0) :: (si, W.listOf #[] 0) :: Wl) := by
  refine ⟨fun j hj => ?_, fun x y hx hy hne => ?_, fun p hp => ?_⟩
  · by_cases e : j = n
    · subst e
      simp only [Lay.ext]
      exact ⟨⟨t, t', .head _⟩, .tail _ (.head _), [], 0, .tail _ (.tail _ (.head _)), .nil⟩
    · simp only [Lay.ext, if_neg e]
      obtain ⟨⟨t1, t2, h1⟩, h2, us, cu, h3, h4⟩ := M.inf j (by omega)
      exact ⟨⟨t1, t2, .tail _ (.tail _ (.tail _ h1))⟩, .tail _ (.tail _ (.tail _ h2)), us, cu, .tail _ (.tail _ (.tail _ h3)), h4⟩
  · have at_ : ∀ j, j < n → a.sa j ≠ si := fun j hj => by
      obtain ⟨_, _, us, cu, h3, h4⟩ := M.inf j hj
      exact hi _ h3
    show (if x = n then si else a.sa x) ≠ (if y = n then si else a.sa y)
    by_cases ex : x = n
    · by_cases ey : y = n
      · exact absurd (ex.trans ey.symm) hne
      · rw [if_pos ex, if_neg ey]; exact Ne.symm (at_ y (by omega))
    · by_cases ey : y = n
      · rw [if_neg ex, if_pos ey]; exact at_ x (by omega)
      · rw [if_neg ex, if_neg ey]; exact M.inj x y (by omega) (by omega) hne
  · simp only [List.mem_cons] at hp
    rcases hp with e | e | e | e
    · rw [e]; exact oi.1
    · rw [e]; exact oi.2.1
    · rw [e]; exact oi.2.2
    · exact M.off p e
theorem TsM.push {a : Lay} {n : Nat} {np : Nat → Int} {sc : Nat → List Int} {Wl : Led} {g h : Heap} {L : Addr} (N : News g L h Wl) (M : TsM a n np sc Wl) {p : Nat} (hp : p < n) {vs : List Value} {c : Nat} (hm : (a.sa p, W.listOf vs.toArray c) ∈ Wl) (hv : IntsAre vs (sc p)) {x : Int} {t : Tok} : TsM a n np (fun j => if j = p then sc j ++ [x] else sc j) (repl (a.sa p) (W.listOf (vs.toArray.push (.int x t)) (c + 1)) Wl) := by
  have one : ∀ {o o' : Obj}, (a.sa p, o) ∈ Wl → (a.sa p, o') ∈ Wl → o = o' := fun h1 h2 => Option.some.inj ((N _ h1).1.symm.trans (N _ h2).1)
  refine ⟨fun j hj => ⟨?_, ?_, ?_⟩, M.inj, repl_off (P := fun x => x ≠ a.S ∧ x ≠ a.ds ∧ x ≠ a.d) hm M.off⟩
  · obtain ⟨t1, t2, h1⟩ := (M.inf j hj).1
    refine ⟨t1, t2, repl_keep h1 fun e => ?_⟩
    have e : a.ia j = a.sa p := e
    rw [e] at h1
    have z := congrArg Obj.data (one h1 hm)
    cases z
  · have h1 := (M.inf j hj).2.1
    refine repl_keep h1 fun e => ?_
    have e : a.da j = a.sa p := e
    rw [e] at h1
    have z := congrArg Obj.data (one h1 hm)
    cases z
  · by_cases e : j = p
    · subst e
      rw [if_pos rfl]
      refine ⟨vs ++ [.int x t], c + 1, ?_, ints_snoc hv⟩
      have := repl_mem (o := W.listOf (vs.toArray.push (.int x t)) (c + 1)) hm
      simpa using this
    · rw [if_neg e]
      obtain ⟨us, c', h1, h2⟩ := (M.inf j hj).2.2
      exact ⟨us, c', repl_keep h1 (M.inj j p hj hp e), h2⟩
theorem append_repl {prog : Program} {w : World} {A : Around} {E : Value → Shared → Prop} {s : Shared} {h₀ : Heap} {L D : Addr} {m : Loc} {news : Led} {its : Array Value} {n : Nat} {x : Value} {Q : Value → Shared → Prop} (F : Fr h₀ L s.heap m) (N : News h₀ L s.heap news) (hm : (D, W.listOf its n) ∈ news) (hsz : its.size ≤ sizeLine)
    (h : ∀ h', Fr h₀ L h' m → News h₀ L h' (repl D (W.listOf (its.push x) (n + 1)) news) → Q .none { s with heap := h' }) : wpAny (model prog w) A (call (.builtin "list.append") [.ref D, x]) Q E s :=
  append_at (hsz := hsz) (N _ hm).1 fun h' hs ho' => h h' (F.change hs (N _ hm).2.1 (N _ hm).2.2) (news_repl N hm hs ho')
theorem value_none {la : Nat → Addr} {n k : Nat} (h : n ≤ k) : valueAt ((List.range n).map fun j : Nat => ((j : Int), Value.ref (la j))) (k : Int) = none := by
  unfold valueAt
  rw [Option.map_eq_none_iff, List.find?_eq_none]
  intro p hp
  obtain ⟨j, hj, rfl⟩ := List.mem_map.mp hp
  have := List.mem_range.mp hj
  simp; omega
theorem value_some {la : Nat → Addr} {n k : Nat} (h : k < n) : valueAt ((List.range n).map fun j : Nat => ((j : Int), Value.ref (la j))) (k : Int) = some (.ref (la k)) := by
  unfold valueAt
  induction n with
  | zero => omega
  | succ n ih =>
    rw [List.range_succ, List.map_append, List.find?_append]
    by_cases e : k < n
    · have := ih e
      cases q : List.find? (fun kv : Int × Value => decide (kv.1 = (k : Int))) ((List.range n).map fun j : Nat => ((j : Int), Value.ref (la j))) with
      | none => rw [q] at this; cases this
      | some p => rw [q] at this; exact this
    · obtain rfl : k = n := by omega
      have : List.find? (fun kv : Int × Value => decide (kv.1 = (k : Int))) ((List.range k).map fun j : Nat => ((j : Int), Value.ref (la j))) = none := by
        rw [List.find?_eq_none]
        intro p hp
        obtain ⟨j, hj, rfl⟩ := List.mem_map.mp hp
        have := List.mem_range.mp hj
        simp; omega
      rw [this]; simp
theorem off_none {g₀ h : Heap} {L : Addr} {nw : Led} {A : List Addr} {i : Addr} (N : News g₀ L h nw) (hi : (hideAll h A).get? i = none) : ∀ p ∈ nw, p.1 ∉ A → p.1 ≠ i := fun p hp hA e => by
  have := hideAll_get A (N p hp).1 hA
  rw [e, hi] at this; cases this
inductive AddInv (a : Lay) (n : Nat) (t : Tok) (hd : Led) (np : Nat → Int) (sc : Nat → List Int) (ps : List Nat) (X : Addr → Prop) (k : Nat) (m : Loc) (nw : Led) : Prop
  | out (Wl : Led) (z1 : m (Str.ofString "self") = some (.ref a.S)) (z2 : m (Str.ofString "node") = some (.int n t)) (z3 : nw = hd ++ Wl) (z4 : TsM a n np (addSc n (ps.take k) sc) Wl) (z5 : ∀ p ∈ Wl, X p.1) : AddInv a n t hd np sc ps X k m nw
section
variable {w : World} {mean : ExcName → Option Value} {mg mb : Str → Option Value} {base : Heap} {outer : List Env} {g : Heap} {gs : Array GenState} {dr : Drawn} {tk : Nat} {os : OsState} {Q E : Value → Shared → Prop}
theorem c_addC {a : Lay} {n : Nat} {np : Nat → Int} {sc : Nat → List Int} {Wl : Led} {g₀ : Heap} {k1 k2 k3 k4 t3 t4 : Tok} {po fi : Int} {t : Tok} {od : Obj} {vs : List Value} {ps : List Nat}
   (e₀ : hideAll g (a.S :: a.ds :: a.d :: Wl.map (·.1)) = g₀) (C : Cx w mean mg mb 2 base outer g₀) (hS : g.get? a.S = some (instObj 171 a.ds)) (hds : g.get? a.ds = some (sDict w k1 k2 k3 k4 a.d .none po t3 fi t4)) (hd : g.get? a.d = some od) (hWl : ∀ p ∈ Wl, g.get? p.1 = some p.2)
   (hdo : od.IsDictOf (intKind Challenge.rw_ny0273_01.row.prog w) ((List.range n).map fun j : Nat => ((j : Int), Value.ref (a.ia j)))) (lo : (a.d == sysModules) = false) (ne : @LT.lt Nat _ a.ds a.S ∧ @LT.lt Nat _ a.S a.d) (hn : n ≤ 20) (M : TsM a n np sc Wl)
   (hvs : IntsAre vs (ps.map fun p : Nat => (p : Int))) (hps : ∀ p ∈ ps, p < n) (hlen : vs.length ≤ 3)
   (hsc : ∀ j, j < n → (sc j).length ≤ 100)
   (ret : ∀ (i di si : Addr) (od' : Obj) (Wl' : Led) h' tk', Keeps g₀ h' → (∀ p ∈ (a.S, instObj 171 a.ds) :: (a.ds, sDict w k1 k2 k3 k4 a.d .none po t3 fi t4) :: (a.d, od') :: Wl', h'.get? p.1 = some p.2 ∧ g₀.get? p.1 = none) →
     od'.IsDictOf (intKind Challenge.rw_ny0273_01.row.prog w) ((List.range (n + 1)).map fun j : Nat => ((j : Int), Value.ref ((a.ext n i di si).ia j))) → TsM (a.ext n i di si) (n + 1) (fun j => if j = n then (vs.length : Int) else np j) (fun j => if j = n then [] else addSc n ps sc j) Wl' → Q .none ⟨h', gs, dr, tk', os⟩) :
   codeAny (model Challenge.rw_ny0273_01.row.prog w) (AA 2 outer) (.call (.ref 121) ⟨.ref a.S :: .int n t :: vs, []⟩) (fun r s' => match r with | .ok (.ret v) => Q v s' | .ok _ => False | .error e => E e s') ⟨g, gs, dr, tk, os⟩ := by
  have X := C.X; revert X; k_fill; intro X
  refine' enterV vs (fun D => [(Str.ofString "predecessors", .ref D), (Str.ofString "node", .int n t), (Str.ofString "self", .ref a.S)]) (g₁ := fun D => some [(Str.ofString "self", .ref a.S), (Str.ofString "node", .int n t), (Str.ofString "predecessors", .ref D)]) ((a.S, instObj 171 a.ds) :: (a.ds, sDict w k1 k2 k3 k4 a.d .none po t3 fi t4) :: (a.d, od) :: Wl) (by subst e₀; exact C) (all_cons hS (all_cons hds (all_cons hd hWl))) ?ho ?hcd ?hb ?hg ?hl ?c1 ?c2 ?c3 ?c4 ?_
  k_dflt ((case ho => k_is); (case hcd => k_is); (case hg => intro D; exact rfl); (case c4 => decide); (case hl => intro D; exact locs rfl); (case c1 => exact rfl); (case c2 => exact rfl); (case c3 => exact rfl); k_whole)
  case hb =>
    rcases short vs hlen with rfl | ⟨x, rfl⟩ | ⟨x, y, rfl⟩ | ⟨x, y, z, rfl⟩
    all_goals (with_unfolding_all exact rfl)
  intro D g' L h1 tk1 lD eg F1 N1 B1 X1 T1
  obtain rfl : g' = g₀ := eg.trans e₀
  obtain ⟨ne1, ne2⟩ := ne
  (try dsimp only)
  (try k_fold)
  k_steps
  unfold NxStop
  have N3 : News g' L h1 [(a.S, instObj 171 a.ds), (a.ds, sDict w k1 k2 k3 k4 a.d .none po t3 fi t4), (a.d, od)] := pickn N1 [1, 2, 3]
  refine wp_callG (r := 1) (by omega) ?_
  refine c_gni2 (S := a.S) (ds := a.ds) (d := a.d) rfl (cx_callG B1 X1 T1 F1 N3 rfl rfl) (N3 _ (.head _)).1 (N3 _ (.tail _ (.head _))).1 (N3 _ (.tail _ (.tail _ (.head _)))).1 hdo lo (value_none (Nat.le_refl _)) ⟨ne1, ne2⟩ (by simp; omega) fun i di si t' od' h2 tk2 kk2 q1 q2 q3 hdo' q4 q5 q6 lt fr => ?_
  have lS := lD _ (.head _)
  have lds := lD _ (.tail _ (.head _))
  have ld := lD _ (.tail _ (.tail _ (.head _)))
  dsimp only at lS lds ld
  have nA : ∀ p ∈ Wl, p.1 ∉ [a.S, a.ds, a.d] := fun p hp =>
    have z := M.off p hp
    nm z.1 (nm z.2.1 (nm z.2.2 List.not_mem_nil))
  have nD : D ∉ [a.S, a.ds, a.d] := nm (Nat.ne_of_gt lS) (nm (Nat.ne_of_gt lds) (nm (Nat.ne_of_gt ld) List.not_mem_nil))
  have Wi : ∀ p ∈ Wl, p.1 ≠ i := fun p hp => off_none N1 fr.1 p (.tail _ (.tail _ (.tail _ (.tail _ hp)))) (nA p hp)
  have Wdi : ∀ p ∈ Wl, p.1 ≠ di := fun p hp => off_none N1 fr.2.1 p (.tail _ (.tail _ (.tail _ (.tail _ hp)))) (nA p hp)
  have Wsi : ∀ p ∈ Wl, p.1 ≠ si := fun p hp => off_none N1 fr.2.2 p (.tail _ (.tail _ (.tail _ (.tail _ hp)))) (nA p hp)
  have Di : @Ne Nat D i := off_none N1 fr.1 _ (.head _) nD
  have Ddi : @Ne Nat D di := off_none N1 fr.2.1 _ (.head _) nD
  have Dsi : @Ne Nat D si := off_none N1 fr.2.2 _ (.head _) nD
  obtain ⟨lt1, lt2, lt3⟩ := lt
  have F2 : Fr g' L h2 _ := fr_hide F1 N1 (all_cons ⟨_, .tail _ (.head _)⟩ (all_cons ⟨_, .tail _ (.tail _ (.head _))⟩ (all_cons ⟨_, .tail _ (.tail _ (.tail _ (.head _)))⟩ all_nil))) kk2
  have gt : ∀ x : Nat, @LT.lt Nat _ a.d x → x ∉ [a.S, a.ds, a.d] := fun x hx => nm (Nat.ne_of_gt (Nat.lt_trans ne2 hx)) (nm (Nat.ne_of_gt (Nat.lt_trans ne1 (Nat.lt_trans ne2 hx))) (nm (Nat.ne_of_gt hx) List.not_mem_nil))
  have N2 : News g' L h2 ((i, infObj di n t 0 t' si) :: (di, W.dictOf [] 0) :: (si, W.listOf #[] 0) :: (D, { cls := .type "tuple", data := .seq vs.toArray }) :: (a.S, instObj 171 a.ds) :: (a.ds, sDict w k1 k2 k3 k4 a.d .none po t3 fi t4) :: (a.d, od') :: Wl) := news_hide F1 N1 kk2 (all_cons (.inr (.inr ⟨q4, fr.1, gt _ (by omega)⟩)) (all_cons (.inr (.inr ⟨q5, fr.2.1, gt _ (by omega)⟩)) (all_cons (.inr (.inr ⟨q6, fr.2.2, gt _ (by omega)⟩)) (all_cons (.inl ⟨.head _, nD⟩) (all_cons (.inr (.inl ⟨⟨_, .tail _ (.head _)⟩, q1⟩)) (all_cons (.inr (.inl ⟨⟨_, .tail _ (.tail _ (.head _))⟩, q2⟩)) (all_cons (.inr (.inl ⟨⟨_, .tail _ (.tail _ (.tail _ (.head _)))⟩, q3⟩)) (fun p e => .inl ⟨.tail _ (.tail _ (.tail _ (.tail _ e))), nA p e⟩))))))))
  clear F1 N1 N3 kk2 q1 q2 q3 q4 q5 q6 hS hds hd fr
  k_steps
  rename News _ _ _ _ => N4
  refine PyProof.Rows.len_tuple (items := vs.toArray) ⟨_, (N4 _ (.tail _ (.tail _ (.tail _ (.head _))))).1, rfl, _, rfl⟩ (by simp; omega) ?_
  k_steps
  unfold NxStop
  rename News _ _ _ _ => N5
  rename Fr _ _ _ _ => F5
  obtain ⟨t2, N5⟩ : ∃ t2, News g' L _ (((i, infObj di n t (0 + vs.toArray.size) t2 si) :: (di, W.dictOf [] 0) :: (si, W.listOf #[] 0) :: (D, { cls := .type "tuple", data := .seq vs.toArray }) :: (a.S, instObj 171 a.ds) :: (a.ds, sDict w k1 k2 k3 k4 a.d .none po t3 fi t4) :: [(a.d, od')]) ++ Wl) := ⟨_, N5⟩
  refine for_tup (h₀ := g') (L := L) (its := vs.toArray) rfl (fun _ => rfl) (AddInv a n t ((i, infObj di n t (0 + vs.toArray.size) t2 si) :: (di, W.dictOf [] 0) :: (si, W.listOf #[] 0) :: (D, { cls := .type "tuple", data := .seq vs.toArray }) :: (a.S, instObj 171 a.ds) :: (a.ds, sDict w k1 k2 k3 k4 a.d .none po t3 fi t4) :: [(a.d, od')]) np sc ps (fun x => x ≠ i ∧ x ≠ di ∧ x ≠ si ∧ x ≠ D)) ?_
  k_steps
  unfold NxStop
  rename News _ _ _ _ => N6
  rename Fr _ _ _ _ => F6
  refine ⟨_, _, _, rfl, F6, N6, ?g0, fun _ _ _ hG => ?gm, fun gg => ⟨?trn, ?fin⟩⟩
  case g0 => exact ⟨Wl, rfl, rfl, rfl, M, fun p hp => ⟨Wi p hp, Wdi p hp, Wsi p hp, Nat.ne_of_lt (lD p (.tail _ (.tail _ (.tail _ hp))))⟩⟩
  case gm => obtain ⟨_, _, _, e, _⟩ := hG; rw [e]; simp
  case fin =>
    rintro m nw h tk ⟨Wl2, m1, m2, rfl, M2, of2⟩ F8 N8
    k_steps
    simp only [List.cons_append, List.nil_append] at N8
    have hlen2 : vs.toArray.size = ps.length := by rw [List.size_toArray, ints_len hvs, List.length_map]
    rw [hlen2, List.take_length] at M2
    rw [stored_range] at hdo'
    have e0 : (0 + (vs.toArray.size : Int)) = (vs.length : Int) := by simp
    rw [e0] at N8
    have M3 := M2.ext (i := i) (di := di) (si := si) (t := t) (t' := t2) (c := (vs.length : Int)) (fun p hp => (of2 p hp).2.2.1) ⟨⟨neN (by omega), neN (by omega), neN (by omega)⟩, ⟨neN (by omega), neN (by omega), neN (by omega)⟩, ⟨neN (by omega), neN (by omega), neN (by omega)⟩⟩
    have N9 := pick N8 [4, 5, 6, 0, 1, 2] 7
    exact ret i di si od' _ h tk F8.keep (fun p hp => ⟨(N9 p hp).1, (N9 p hp).2.2⟩) hdo' M3
  case trn =>
    rintro I k v m nw oI h tk hk ⟨Wl2, m1, m2, rfl, M2, of2⟩ F8 N8 off8
    refine hide_turn fun Q1 hQ1 => ?_
    simp only [List.cons_append, List.nil_append] at N8 off8
    obtain ⟨p, tp, hp, rfl⟩ : ∃ p tp, ps[k]? = some p ∧ v = .int (p : Int) tp := by
      obtain ⟨x, tx, h1, h2⟩ := ints_get hvs (by simpa using hk)
      rw [List.getElem?_map, Option.map_eq_some_iff] at h1
      obtain ⟨p, h3, h4⟩ := h1
      exact ⟨p, tx, h3, by rw [h2, h4]⟩
    have hpn := hps p (List.mem_of_getElem? hp)
    obtain ⟨⟨ti, ti', hmi⟩, hmd, us, cu, hms, hus⟩ := M2.inf p hpn
    k_steps
    unfold NxStop
    rename Fr _ _ _ _ => F9
    rename News _ _ _ _ => N9
    have N3 : News g' L _ [(a.S, instObj 171 a.ds), (a.ds, sDict w k1 k2 k3 k4 a.d .none po t3 fi t4), (a.d, od')] := pickn N9 [5, 6, 7]
    rw [stored_range] at hdo'
    refine wp_callG (r := 0) (by omega) ?_
    refine c_gni1 (S := a.S) (ds := a.ds) (d := a.d) rfl (cx_callG B1 X1 T1 F9 N3 rfl rfl) (N3 _ (.head _)).1 (N3 _ (.tail _ (.head _))).1 (N3 _ (.tail _ (.tail _ (.head _)))).1 hdo' lo (value_some (Nat.lt_succ_of_lt hpn)) ⟨ne1, ne2⟩ fun h10 tk10 k10 => ?_
    rw [if_neg (Nat.ne_of_lt hpn)]
    have F10 := F9.keeps k10
    have N10 := N9.grown k10
    k_steps
    unfold NxStop
    rename Fr _ _ _ _ => F11
    rename News _ _ _ _ => N11
    have hlu : us.length ≤ 200 := by
      rw [ints_len hus]
      refine Nat.le_trans addSc_len ?_
      have h1 := hsc p hpn
      have h2 : (ps.take k).length ≤ ps.length := by rw [List.length_take]; omega
      have h3 : vs.length = ps.length := by rw [ints_len hvs, List.length_map]
      omega
    have o2 := of2 _ hms
    have o3 := M2.off _ hms
    have o4 := off8 _ (.tail _ (.tail _ (.tail _ (.tail _ (.tail _ (.tail _ (.tail _ hms)))))))
    refine append_repl F11 N11 (.tail _ (.tail _ (.tail _ (.tail _ (.tail _ (.tail _ (.tail _ (.tail _ hms)))))))) (by rw [List.size_toArray, sizeLine_eq]; omega) fun h12 F12 N12 => ?_
    rw [repl_cons (Ne.symm o4), repl_cons (Ne.symm o2.1), repl_cons (Ne.symm o2.2.1), repl_cons (Ne.symm o2.2.2.1), repl_cons (Ne.symm o2.2.2.2), repl_cons (Ne.symm o3.1), repl_cons (Ne.symm o3.2.1), repl_cons (Ne.symm o3.2.2)] at N12
    have N2w : News g' L _ Wl2 := fun q hq => N11 q (.tail _ (.tail _ (.tail _ (.tail _ (.tail _ (.tail _ (.tail _ (.tail _ hq))))))))
    have M3 := TsM.push N2w M2 hpn hms hus (x := (n : Int)) (t := t)
    rw [← addSc_succ hp] at M3
    k_steps
    refine post_of hQ1 ?_
    show FEnd _ _ _ _ _ _ _
    refine FEnd.intro F12 N12 _ (fun q hq => hq) ?_ ⟨_, by walk_at "nx_hv", by walk_at "nx_hv", rfl, M3, repl_off (P := fun x => x ≠ i ∧ x ≠ di ∧ x ≠ si ∧ x ≠ D) hms of2⟩
    exact all_cons (off8 _ (.head _)) (all_cons (off8 _ (.tail _ (.head _))) (all_cons (off8 _ (.tail _ (.tail _ (.head _)))) (all_cons (off8 _ (.tail _ (.tail _ (.tail _ (.head _))))) (all_cons (off8 _ (.tail _ (.tail _ (.tail _ (.tail _ (.head _)))))) (all_cons (off8 _ (.tail _ (.tail _ (.tail _ (.tail _ (.tail _ (.head _))))))) (all_cons (off8 _ (.tail _ (.tail _ (.tail _ (.tail _ (.tail _ (.tail _ (.head _)))))))) (repl_off (P := fun x => x ≠ I) hms fun q hq => off8 q (.tail _ (.tail _ (.tail _ (.tail _ (.tail _ (.tail _ (.tail _ (hq)))))))))))))))
end
end Mine
end
section
open PySem PySem.W PyProof.Rows
theorem Mine.anew12 {M : Model} {A : Around} {env : Env} {Q : Flow → Shared → Prop} {E : Value → Shared → Prop} {s : Shared} (h : wpAny M A (execs [] env) Q E s) : wpAny M A (execs [] env) Q E s := by first | (walk1; done) | exact h
end
section
open PySem PySem.W PyProof.Rows PySem.Calls PyProof.Rows.LCg
set_option maxHeartbeats 4000000
namespace Mine
theorem bool_tree (l : Addr) : Builtin.«bool.__new__» ⟨[.type "bool", .ref l], []⟩ = (do ret (.bool (← truthy (.ref l)))) := by rfl
theorem meets_bool_list (l : Addr) : Meets (Builtin.«bool.__new__» ⟨[.type "bool", .ref l], []⟩) (fun _ R s => ∃ items, s.heap.IsList l items ∧ (items.size : Int) < 2 ^ 63 ∧ R (.ok (.ret (.bool (!items.isEmpty)))) { s with toks := s.toks + 1 + 1 }) :=
  Meets.of_wp fun prog w A R s hs => by
    obtain ⟨items, hl, hz, hR⟩ := hs
    rw [bool_tree]
    refine wpAny_bind (wpAny_truthy_list hl hz ?_)
    exact wpAny_pure ⟨_, rfl, hR⟩
theorem call_bool_list {prog : Program} {w : World} {A : Around} {E : Value → Shared → Prop} {s : Shared} {l : Addr} {items : Array Value} {Q : Value → Shared → Prop} (hl : s.heap.IsList l items) (hz : (items.size : Int) < 2 ^ 63) (h : Q (.bool (!items.isEmpty)) { s with toks := s.toks + 1 + 1 }) : wpAny (model prog w) A (call (.type "bool") [.ref l]) Q E s :=
  call_bool_1 (meets_bool_list l) ⟨items, hl, hz, rfl, h⟩
local macro_rules | `(tactic| walk_at $s:str) => wk "" s
section
variable {w : World} {mean : ExcName → Option Value} {mg mb : Str → Option Value} {base : Heap} {outer : List Env} {g : Heap} {gs : Array GenState} {dr : Drawn} {tk : Nat} {os : OsState} {Q E : Value → Shared → Prop}
theorem c_active {S ds d ra : Addr} {g₀ : Heap} {k1 k2 k3 k4 t3 t4 : Tok} {po fi : Int} {vs : List Value} {c : Nat} (e₀ : hideAll g [S, ds, ra] = g₀) (C : Cx w mean mg mb 0 base outer g₀) (hS : g.get? S = some (instObj 171 ds)) (hds : g.get? ds = some (sDict w k1 k2 k3 k4 d (.ref ra) po t3 fi t4)) (hra : g.get? ra = some (W.listOf vs.toArray c))
   (ne : @LT.lt Nat _ ds S ∧ @Ne Nat ds ra ∧ @Ne Nat S ra) (hz : vs.length ≤ 100)
   (ret : ∀ h' tk', Keeps g h' → Q (.bool (decide (fi < po) || !vs.isEmpty)) ⟨h', gs, dr, tk', os⟩) :
   wpAny (model Challenge.rw_ny0273_01.row.prog w) (AA 0 outer) (call (.ref 140) [.ref S]) Q E ⟨g, gs, dr, tk, os⟩ := by
  have X := C.X; revert X; k_fill; intro X
  refine wpAny_call ?_
  refine' enter [(Str.ofString "self", .ref S)] [(S, instObj 171 ds), (ds, sDict w k1 k2 k3 k4 d (.ref ra) po t3 fi t4), (ra, W.listOf vs.toArray c)] (by subst e₀; exact C) (fun p hp => ?hh) ?ho ?hcd ?hb ?hl ?c1 ?c2 ?c3 ?c4 ?_
  case hh =>
    simp only [List.mem_cons, List.not_mem_nil, or_false] at hp
    rcases hp with e | e | e
    · rw [e]; exact hS
    · rw [e]; exact hds
    · rw [e]; exact hra
  k_dflt ((case ho => k_is); (case hcd => k_is); (case hb => exact BindsTo.of_eq rfl); (case c4 => decide); (case hl => exact locs rfl); (case c1 => exact rfl); (case c2 => exact rfl); (case c3 => exact rfl); k_whole)
  intro g' L h1 tk1 eg F1 N1 B1 X1 T1
  obtain rfl : g' = g₀ := eg.trans e₀
  obtain ⟨ne1, ne2, ne3⟩ := ne
  (try dsimp only)
  (try k_fold)
  have kb : ∀ h', Keeps g' h' → h'.get? S = some (instObj 171 ds) → h'.get? ds = some (sDict w k1 k2 k3 k4 d (.ref ra) po t3 fi t4) → h'.get? ra = some (W.listOf vs.toArray c) → Keeps g h' := fun h' k a1 a2 a3 => keeps_back (A := [S, ds, ra]) (by rw [e₀]; exact k) fun x hx o e => by
    simp only [List.mem_cons, List.not_mem_nil, or_false] at hx
    rcases hx with e' | e' | e'
    · subst e'; rw [hS] at e; injection e with e; subst e; exact a1
    · subst e'; rw [hds] at e; injection e with e; subst e; exact a2
    · subst e'; rw [hra] at e; injection e with e; subst e; exact a3
  k_steps
  · dsimp only
    rename fi < po => hlt
    have := fun tk' => ret h1 tk' (kb _ F1.keep (N1 _ (.head _)).1 (N1 _ (.tail _ (.head _))).1 (N1 _ (.tail _ (.tail _ (.head _)))).1)
    rw [decide_eq_true hlt] at this ⊢
    exact this _
  · rename ¬ fi < po => hlt
    refine call_bool_list (PySem.IsL.isList (n := c) (N1 _ (.tail _ (.tail _ (.head _)))).1) (by simp; omega) ?_
    have := fun tk' => ret h1 tk' (kb _ F1.keep (N1 _ (.head _)).1 (N1 _ (.tail _ (.head _))).1 (N1 _ (.tail _ (.tail _ (.head _)))).1)
    rw [decide_eq_false hlt] at this
    have e : vs.toArray.isEmpty = vs.isEmpty := by simp
    rw [e]
    exact this _
end
end Mine
end
section
open PySem PySem.W PyProof.Rows
theorem Mine.anew13 {M : Model} {A : Around} {env : Env} {Q : Flow → Shared → Prop} {E : Value → Shared → Prop} {s : Shared} (h : wpAny M A (execs [] env) Q E s) : wpAny M A (execs [] env) Q E s := by first | (walk1; done) | exact h
end
section
open PySem PySem.W PyProof.Rows PySem.Calls PyProof.Rows.LCg
set_option maxHeartbeats 4000000
namespace Mine
/-- a ledger without the thing at a -/
noncomputable def pull (a : Addr) (W : Led) : Led := W.filter fun p => decide (p.1 ≠ a)
theorem pull_mem {a : Addr} {W : Led} {p : Addr × Obj} (h : p ∈ pull a W) : p ∈ W ∧ p.1 ≠ a := by
  unfold pull at h; rw [List.mem_filter, decide_eq_true_eq] at h; exact h
theorem pull_off {a : Addr} {W : Led} : ∀ p ∈ pull a W, p.1 ≠ a := fun _ h => (pull_mem h).2
theorem mem_pull {a : Addr} {W : Led} {p : Addr × Obj} (h : p ∈ W) (hn : p.1 ≠ a) : p ∈ pull a W := by
  unfold pull; rw [List.mem_filter, decide_eq_true_eq]; exact ⟨h, hn⟩
/-- the number of a node's forerunners changed -/
theorem TsM.setNp {a : Lay} {n : Nat} {np : Nat → Int} {sc : Nat → List Int} {Wl : Led} {g h : Heap} {L : Addr} (N : News g L h Wl) (M : TsM a n np sc Wl) {p : Nat} (hp : p < n) {x : Int} {t t' : Tok} : TsM a n (fun j => if j = p then x else np j) sc ((a.ia p, infObj (a.da p) p t x t' (a.sa p)) :: pull (a.ia p) Wl) := by
  obtain ⟨⟨u, u', hu⟩, _⟩ := M.inf p hp
  have one : ∀ {o : Obj}, (a.ia p, o) ∈ Wl → infObj (a.da p) p u (np p) u' (a.sa p) = o := fun h2 => Option.some.inj ((N _ hu).1.symm.trans (N _ h2).1)
  refine ⟨fun j hj => ⟨?_, ?_, ?_⟩, M.inj, fun q hq => ?_⟩
  · obtain ⟨t1, t2, h1⟩ := (M.inf j hj).1
    by_cases e : j = p
    · subst e; rw [if_pos rfl]; exact ⟨t, t', .head _⟩
    · rw [if_neg e]
      refine ⟨t1, t2, .tail _ (mem_pull h1 fun e2 => ?_)⟩
      have e2 : a.ia j = a.ia p := e2
      rw [e2] at h1
      have z := congrArg Obj.slots (one h1)
      simp at z
      omega
  · have h1 := (M.inf j hj).2.1
    refine .tail _ (mem_pull h1 fun e => ?_)
    have e : a.da j = a.ia p := e
    rw [e] at h1
    have z := congrArg Obj.data (one h1)
    cases z
  · obtain ⟨us, c', h1, h2⟩ := (M.inf j hj).2.2
    refine ⟨us, c', .tail _ (mem_pull h1 fun e => ?_), h2⟩
    have e : a.sa j = a.ia p := e
    rw [e] at h1
    have z := congrArg Obj.data (one h1)
    cases z
  · rcases List.mem_cons.mp hq with e | e
    · rw [e]; exact M.off (a.ia p, infObj (a.da p) p u (np p) u' (a.sa p)) hu
    · exact M.off q (pull_mem e).1
noncomputable def outNp (x : Int) (ps : List Nat) (np : Nat → Int) : Nat → Int := ps.foldl (fun f p => fun j => if j = p then x else f j) np
theorem outNp_succ {x : Int} {ps : List Nat} {np : Nat → Int} {k p : Nat} (h : ps[k]? = some p) : outNp x (ps.take (k + 1)) np = fun j => if j = p then x else outNp x (ps.take k) np j := by
  unfold outNp; rw [List.take_add_one, h]; simp [List.foldl_append]
inductive RdInv (a : Lay) (n : Nat) (hd : Led) (D : Addr) (np : Nat → Int) (sc : Nat → List Int) (ps : List Nat) (X : Addr → Prop) (k : Nat) (m : Loc) (nw : Led) : Prop
  | out (Wl : Led) (z1 : m (Str.ofString "self") = some (.ref a.S)) (z2 : m (Str.ofString "n2i") = some (.ref a.d)) (z3 : m (Str.ofString "result") = some (.ref D)) (z4 : nw = hd ++ Wl) (z5 : TsM a n (outNp (-1) (ps.take k) np) sc Wl) (z6 : ∀ p ∈ Wl, X p.1) : RdInv a n hd D np sc ps X k m nw
local macro_rules | `(tactic| walk_at $s:str) => wk "S=exec For Name Name cons nil;HV=nx_hv;NM=eval Name;D=FPost;ST=subscriptTail" s
section
variable {w : World} {mean : ExcName → Option Value} {mg mb : Str → Option Value} {base : Heap} {outer : List Env} {g : Heap} {gs : Array GenState} {dr : Drawn} {tk : Nat} {os : OsState} {Q E : Value → Shared → Prop}
theorem c_ready {a : Lay} {n : Nat} {np : Nat → Int} {sc : Nat → List Int} {Wl : Led} {g₀ : Heap} {k1 k2 k3 k4 t3 t4 : Tok} {po fi : Int} {od : Obj} {vs : List Value} {c : Nat} {ps : List Nat} {ra : Addr}
   (e₀ : hideAll g (a.S :: a.ds :: a.d :: ra :: Wl.map (·.1)) = g₀) (C : Cx w mean mg mb 0 base outer g₀) (hS : g.get? a.S = some (instObj 171 a.ds)) (hds : g.get? a.ds = some (sDict w k1 k2 k3 k4 a.d (.ref ra) po t3 fi t4)) (hd : g.get? a.d = some od) (hra : g.get? ra = some (W.listOf vs.toArray c)) (hWl : ∀ p ∈ Wl, g.get? p.1 = some p.2)
   (hdo : od.IsDictOf (intKind Challenge.rw_ny0273_01.row.prog w) ((List.range n).map fun j : Nat => ((j : Int), Value.ref (a.ia j)))) (lo : (a.d == sysModules) = false) (ne : @LT.lt Nat _ a.ds a.S ∧ @LT.lt Nat _ a.S a.d ∧ @Ne Nat a.ds ra ∧ @Ne Nat a.S ra ∧ @Ne Nat a.d ra) (hn : n ≤ 20) (M : TsM a n np sc Wl) (Wr : ∀ p ∈ Wl, p.1 ≠ ra)
   (hvs : IntsAre vs (ps.map fun p : Nat => (p : Int))) (hps : ∀ p ∈ ps, p < n) (hlen : vs.length ≤ 9) (hne : vs ≠ [])
   (ret : ∀ (D : Addr) (t3' : Tok) (Wl' : Led) h' tk', Keeps g₀ h' → (∀ p ∈ (D, ({ cls := .type "tuple", data := .seq vs.toArray } : Obj)) :: (a.S, instObj 171 a.ds) :: (a.ds, sDict w k1 k2 k3 k4 a.d (.ref ra) (po + vs.length) t3' fi t4) :: (a.d, od) :: (ra, W.listOf #[] (c + 1)) :: Wl', h'.get? p.1 = some p.2 ∧ g₀.get? p.1 = none) →
     TsM a n (outNp (-1) ps np) sc Wl' → (∀ p ∈ Wl', p.1 ≠ ra) → Q (.ref D) ⟨h', gs, dr, tk', os⟩) :
   wpAny (model Challenge.rw_ny0273_01.row.prog w) (AA 0 outer) (call (.ref 133) [.ref a.S]) Q E ⟨g, gs, dr, tk, os⟩ := by
  have X := C.X; revert X; k_fill; intro X
  refine wpAny_call ?_
  refine' enter [(Str.ofString "self", .ref a.S)] ((a.S, instObj 171 a.ds) :: (a.ds, sDict w k1 k2 k3 k4 a.d (.ref ra) po t3 fi t4) :: (a.d, od) :: (ra, W.listOf vs.toArray c) :: Wl) (by subst e₀; exact C) (all_cons hS (all_cons hds (all_cons hd (all_cons hra hWl)))) ?ho ?hcd ?hb ?hl ?c1 ?c2 ?c3 ?c4 ?_
  k_dflt ((case ho => k_is); (case hcd => k_is); (case hb => exact BindsTo.of_eq rfl); (case c4 => decide); (case hl => exact locs rfl); (case c1 => exact rfl); (case c2 => exact rfl); (case c3 => exact rfl); k_whole)
  intro g' L h1 tk1 eg F1 N1 B1 X1 T1
  obtain rfl : g' = g₀ := eg.trans e₀
  obtain ⟨ne1, ne2, ne3, ne4, ne5⟩ := ne
  (try dsimp only)
  (try k_fold)
  k_steps
  unfold NxStop
  rename News _ _ _ _ => N5
  rename Fr _ _ _ _ => F5
  rename_i D _ _ _ _
  have one : ∀ {x : Addr} {o o' : Obj}, (x, o) ∈ ((D, { cls := .type "tuple", data := .seq vs.toArray }) :: (a.S, instObj 171 a.ds) :: (a.ds, sDict w k1 k2 k3 k4 a.d (.ref ra) po t3 fi t4) :: (a.d, od) :: [(ra, W.listOf vs.toArray c)]) ++ Wl → (x, o') ∈ ((D, { cls := .type "tuple", data := .seq vs.toArray }) :: (a.S, instObj 171 a.ds) :: (a.ds, sDict w k1 k2 k3 k4 a.d (.ref ra) po t3 fi t4) :: (a.d, od) :: [(ra, W.listOf vs.toArray c)]) ++ Wl → o = o' := fun h1 h2 => Option.some.inj ((N5 _ h1).1.symm.trans (N5 _ h2).1)
  have Dds : @Ne Nat D a.ds := fun e => by
    have z := congrArg Obj.cls (one (x := D) (.head _) (by rw [show D = a.ds from e]; exact .tail _ (.tail _ (.head _))))
    simp at z
  have Dra : @Ne Nat D ra := fun e => by
    have z := congrArg Obj.cls (one (x := D) (.head _) (by rw [show D = ra from e]; exact .tail _ (.tail _ (.tail _ (.tail _ (.head _))))))
    simp at z
  refine for_tup (h₀ := g') (L := L) (its := vs.toArray) rfl (fun _ => rfl) (RdInv a n ((D, { cls := .type "tuple", data := .seq vs.toArray }) :: (a.S, instObj 171 a.ds) :: (a.ds, sDict w k1 k2 k3 k4 a.d (.ref ra) po t3 fi t4) :: (a.d, od) :: [(ra, W.listOf vs.toArray c)]) D np sc ps (fun x => x ≠ ra)) ?_
  k_steps
  unfold NxStop
  rename News _ _ _ _ => N6
  rename Fr _ _ _ _ => F6
  refine ⟨_, _, _, rfl, F6, N6, ?g0, fun _ _ _ hG => ?gm, fun gg => ⟨?trn, ?fin⟩⟩
  case g0 => exact ⟨Wl, rfl, rfl, rfl, rfl, M, Wr⟩
  case gm => obtain ⟨_, _, _, _, e, _⟩ := hG; rw [e]; simp
  case fin =>
    rintro m nw h tk ⟨Wl2, m1, m2, m3, rfl, M2, of2⟩ F8 N8
    simp only [List.cons_append, List.nil_append] at N8
    k_steps
    refine kl_clear F8 N8 (.tail (neN (by dsimp only; omega)) (.tail (neN (by dsimp only; omega)) (.tail (neN (by dsimp only; omega)) (.tail (neN (by dsimp only; omega)) (.head of2))))) (by simpa using hne) (by simp [sizeLine_eq]; omega) fun h9 F9 N9 => ?_
    have Wds : ∀ p ∈ Wl2, p.1 ≠ a.ds := fun p hp => (M2.off p hp).2.1
    k_steps
    refine PyProof.Rows.len_tuple (items := vs.toArray) ⟨_, (N9 _ (.head _)).1, rfl, _, rfl⟩ (by simp; omega) ?_
    k_steps
    dsimp only
    rename Fr _ _ _ _ => F10
    rename News _ _ _ _ => N10
    have hlen2 : vs.toArray.size = ps.length := by rw [List.size_toArray, ints_len hvs, List.length_map]
    rw [hlen2, List.take_length] at M2
    have e0 : (po + (vs.toArray.size : Int)) = po + (vs.length : Int) := by simp
    rw [e0] at N10
    exact ret D _ Wl2 _ _ F10.keep (fun p hp => ⟨(N10 p hp).1, (N10 p hp).2.2⟩) M2 of2
  case trn =>
    rintro I k v m nw oI h tk hk ⟨Wl2, m1, m2, m3, rfl, M2, of2⟩ F8 N8 off8
    refine hide_turn fun Q1 hQ1 => ?_
    simp only [List.cons_append, List.nil_append] at N8 off8
    obtain ⟨p, tp, hp, rfl⟩ : ∃ p tp, ps[k]? = some p ∧ v = .int (p : Int) tp := by
      obtain ⟨x, tx, h1, h2⟩ := ints_get hvs (by simpa using hk)
      rw [List.getElem?_map, Option.map_eq_some_iff] at h1
      obtain ⟨p, h3, h4⟩ := h1
      exact ⟨p, tx, h3, by rw [h2, h4]⟩
    have hpn := hps p (List.mem_of_getElem? hp)
    obtain ⟨⟨ti, ti', hmi⟩, hmd, us, cu, hms, hus⟩ := M2.inf p hpn
    k_steps
    unfold NxStop
    rename Fr _ _ _ _ => F9
    rename News _ _ _ _ => N9
    refine kdt_tail N9 (.tail _ (.tail _ (.tail _ (.tail _ (.head _))))) hdo (kdt_getItem N9 (.tail _ (.tail _ (.tail _ (.tail _ (.head _))))) hdo (intKind_is _ _ _ _) (value_some hpn) ?_)
    have N9w : News g' L _ Wl2 := fun q hq => N9 q (.tail _ (.tail _ (.tail _ (.tail _ (.tail _ (.tail _ hq))))))
    have oi := M2.off _ hmi
    have one : ∀ {o : Obj}, (a.ia p, o) ∈ _ → infObj (a.da p) p ti _ ti' (a.sa p) = o := fun h2 => Option.some.inj ((N9w _ hmi).1.symm.trans (N9 _ h2).1)
    have n1 : @Ne Nat (a.ia p) D := fun e => by
      have z := congrArg Obj.data (one (.tail _ (by rw [show a.ia p = D from e]; exact .head _)))
      cases z
    have n2 : @Ne Nat (a.ia p) ra := of2 _ hmi
    have n3 : @Ne Nat (a.ia p) I := off8 _ (.tail _ (.tail _ (.tail _ (.tail _ (.tail _ hmi)))))
    have n4 : @Ne Nat (a.ia p) a.S := oi.1
    have n5 : @Ne Nat (a.ia p) a.ds := oi.2.1
    have n6 : @Ne Nat (a.ia p) a.d := oi.2.2
    have hmd' : (a.da p, W.dictOf [] 0) ∈ pull (a.ia p) Wl2 := mem_pull hmd fun e => by
      have z := congrArg Obj.data (one (.tail _ (.tail _ (.tail _ (.tail _ (.tail _ (.tail _ (by rw [← show a.da p = a.ia p from e]; exact hmd))))))))
      cases z
    have poff : ∀ q ∈ pull (a.ia p) Wl2, q.1 ≠ a.ia p := pull_off
    have N10 : News g' L _ ((a.ia p, infObj (a.da p) p ti _ ti' (a.sa p)) :: (I, oI) :: (D, { cls := .type "tuple", data := .seq vs.toArray }) :: (a.S, instObj 171 a.ds) :: (a.ds, sDict w k1 k2 k3 k4 a.d (.ref ra) po t3 fi t4) :: (a.d, od) :: (ra, W.listOf vs.toArray c) :: pull (a.ia p) Wl2) := all_cons (N9w _ hmi) (all_cons (N9 _ (.head _)) (all_cons (N9 _ (.tail _ (.head _))) (all_cons (N9 _ (.tail _ (.tail _ (.head _)))) (all_cons (N9 _ (.tail _ (.tail _ (.tail _ (.head _))))) (all_cons (N9 _ (.tail _ (.tail _ (.tail _ (.tail _ (.head _)))))) (all_cons (N9 _ (.tail _ (.tail _ (.tail _ (.tail _ (.tail _ (.head _))))))) (fun q e => N9w q (pull_mem e).1)))))))
    have M3 := TsM.setNp N9w M2 hpn (x := -1) (t := ti) (t' := 361)
    rw [← outNp_succ hp] at M3
    clear N9
    k_steps
    rename Fr _ _ _ _ => F11
    rename News _ _ _ _ => N11
    refine post_of hQ1 ?_
    show FEnd _ _ _ _ _ _ _
    refine FEnd.intro F11 N11 ((D, { cls := .type "tuple", data := .seq vs.toArray }) :: (a.S, instObj 171 a.ds) :: (a.ds, sDict w k1 k2 k3 k4 a.d (.ref ra) po t3 fi t4) :: (a.d, od) :: (ra, W.listOf vs.toArray c) :: (a.ia p, infObj (a.da p) p ti (-1) 361 (a.sa p)) :: pull (a.ia p) Wl2) (picks [1, 2, 3, 4, 5, 6, 0] 7) (all_cons (off8 _ (.head _)) (all_cons (off8 _ (.tail _ (.head _))) (all_cons (off8 _ (.tail _ (.tail _ (.head _)))) (all_cons (off8 _ (.tail _ (.tail _ (.tail _ (.head _))))) (all_cons (off8 _ (.tail _ (.tail _ (.tail _ (.tail _ (.head _)))))) (all_cons n3 (fun q e => off8 q (.tail _ (.tail _ (.tail _ (.tail _ (.tail _ ((pull_mem e).1))))))))))))) ⟨_, by walk_at "nx_hv", by walk_at "nx_hv", by walk_at "nx_hv", rfl, M3, fun q hq => ?x⟩
    case x =>
      rcases List.mem_cons.mp hq with e | e
      · rw [e]; exact n2
      · exact of2 q (pull_mem e).1
end
end Mine
end
section
open PySem PySem.W PyProof.Rows
theorem Mine.anew14 {M : Model} {A : Around} {env : Env} {Q : Flow → Shared → Prop} {E : Value → Shared → Prop} {s : Shared} (h : wpAny M A (execs [] env) Q E s) : wpAny M A (execs [] env) Q E s := by first | (walk1; done) | exact h
end
section
open PySem PySem.W PyProof.Rows PySem.Calls PyProof.Rows.LCg
set_option maxHeartbeats 4000000
namespace Mine
/-- one follower of a node that is done -/
noncomputable def dnS (st : (Nat → Int) × List Int) (s : Nat) : (Nat → Int) × List Int := (fun j => if j = s then st.1 j - 1 else st.1 j, if st.1 s - 1 = 0 then st.2 ++ [(s : Int)] else st.2)
/-- one node done -/
noncomputable def dnN (sc : Nat → List Nat) (st : (Nat → Int) × List Int) (p : Nat) : (Nat → Int) × List Int := (sc p).foldl dnS (fun j => if j = p then -2 else st.1 j, st.2)
noncomputable def dnAll (sc : Nat → List Nat) (ps : List Nat) (st : (Nat → Int) × List Int) : (Nat → Int) × List Int := ps.foldl (dnN sc) st
theorem dnS_succ {l : List Nat} {st : (Nat → Int) × List Int} {k p : Nat} (h : l[k]? = some p) : (l.take (k + 1)).foldl dnS st = dnS ((l.take k).foldl dnS st) p := by
  rw [List.take_add_one, h]; simp [List.foldl_append]
theorem dnN_succ {sc : Nat → List Nat} {l : List Nat} {st : (Nat → Int) × List Int} {k p : Nat} (h : l[k]? = some p) : dnAll sc (l.take (k + 1)) st = dnN sc (dnAll sc (l.take k) st) p := by
  unfold dnAll; rw [List.take_add_one, h]; simp [List.foldl_append]
theorem dnS_len : ∀ {l : List Nat} {st : (Nat → Int) × List Int}, (l.foldl dnS st).2.length ≤ st.2.length + l.length
  | [], _ => Nat.le_refl _
  | p :: l, st => by
    rw [List.foldl_cons]
    refine Nat.le_trans dnS_len ?_
    unfold dnS
    split <;> simp <;> omega
theorem dn_len {sc : Nat → List Nat} (hs : ∀ p, (sc p).length ≤ 9) : ∀ {l : List Nat} {st : (Nat → Int) × List Int}, (dnAll sc l st).2.length ≤ st.2.length + 9 * l.length
  | [], _ => Nat.le_refl _
  | p :: l, st => by
    show (dnAll sc l (dnN sc st p)).2.length ≤ _
    refine Nat.le_trans (dn_len hs) ?_
    have h1 : (dnN sc st p).2.length ≤ st.2.length + (sc p).length := dnS_len
    have h2 := hs p
    rw [List.length_cons]; omega
inductive DnInv (w : World) (a : Lay) (n : Nat) (D ra : Addr) (vs : List Value) (od : Obj) (k1 k2 k3 k4 t3 : Tok) (po fi : Int) (sc : Nat → List Nat) (st : (Nat → Int) × List Int) (ps : List Nat) (k : Nat) (m : Loc) (nw : Led) : Prop
  | out (Wl : Led) (rs : List Value) (c : Nat) (t4 : Tok) (z1 : m (Str.ofString "self") = some (.ref a.S)) (z2 : m (Str.ofString "n2i") = some (.ref a.d)) (z3 : m (Str.ofString "nodes") = some (.ref D)) (z4 : nw = (D, ({ cls := .type "tuple", data := .seq vs.toArray } : Obj)) :: (a.S, instObj 171 a.ds) :: (a.ds, sDict w k1 k2 k3 k4 a.d (.ref ra) po t3 (fi + k) t4) :: (a.d, od) :: (ra, W.listOf rs.toArray c) :: Wl) (z5 : IntsAre rs (dnAll sc (ps.take k) st).2) (z6 : TsM a n (dnAll sc (ps.take k) st).1 (fun j => (sc j).map fun p : Nat => (p : Int)) Wl) (z7 : (∀ p ∈ Wl, p.1 ≠ ra ∧ p.1 ≠ D)) : DnInv w a n D ra vs od k1 k2 k3 k4 t3 po fi sc st ps k m nw
inductive InInv (w : World) (a : Lay) (n : Nat) (I : Addr) (oI : Obj) (D ra : Addr) (vs : List Value) (od : Obj) (k1 k2 k3 k4 t3 t4 : Tok) (po fi : Int) (sc : Nat → List Nat) (st : (Nat → Int) × List Int) (p : Nat) (us : List Value) (cu : Nat) (i : Nat) (m : Loc) (nw : Led) : Prop
  | out (Wl : Led) (rs : List Value) (c : Nat) (z1 : m (Str.ofString "self") = some (.ref a.S)) (z2 : m (Str.ofString "n2i") = some (.ref a.d)) (z3 : m (Str.ofString "nodes") = some (.ref D)) (z4 : nw = (I, oI) :: (D, ({ cls := .type "tuple", data := .seq vs.toArray } : Obj)) :: (a.S, instObj 171 a.ds) :: (a.ds, sDict w k1 k2 k3 k4 a.d (.ref ra) po t3 fi t4) :: (a.d, od) :: (ra, W.listOf rs.toArray c) :: Wl) (z5 : IntsAre rs (((sc p).take i).foldl dnS st).2) (z6 : TsM a n (((sc p).take i).foldl dnS st).1 (fun j => (sc j).map fun p : Nat => (p : Int)) Wl) (z7 : (∀ p ∈ Wl, p.1 ≠ ra ∧ p.1 ≠ D ∧ p.1 ≠ I)) (z8 : (a.sa p, W.listOf us.toArray cu) ∈ Wl) : InInv w a n I oI D ra vs od k1 k2 k3 k4 t3 t4 po fi sc st p us cu i m nw
theorem news_last {g h : Heap} {L : Addr} {x a b c d e f : Addr × Obj} {Wl : Led} (N : News g L h (x :: a :: b :: c :: d :: e :: f :: Wl)) : News g L h (a :: b :: c :: d :: e :: f :: x :: Wl) := pick N [1, 2, 3, 4, 5, 6, 0] 7
theorem pull_news {g h : Heap} {L x : Addr} {o : Obj} {Wl : Led} (hd : Led) (N : News g L h (hd ++ Wl)) (hm : (x, o) ∈ Wl) : News g L h ((x, o) :: (hd ++ pull x Wl)) := fun q hq => by
  rcases List.mem_cons.mp hq with e | e
  · rw [e]; exact N _ (List.mem_append.mpr (.inr hm))
  · rcases List.mem_append.mp e with e | e
    · exact N q (List.mem_append.mpr (.inl e))
    · exact N q (List.mem_append.mpr (.inr (pull_mem e).1))
/-- where a record lies: apart from the lists, the tables, the tuples -/
theorem inf_off {g h : Heap} {L x y : Addr} {o : Obj} {nw : Led} {di : Addr} {j : Int} {t : Tok} {c : Int} {t' : Tok} {si : Addr} (N : News g L h nw) (h1 : (x, infObj di j t c t' si) ∈ nw) (h2 : (y, o) ∈ nw) (hd : o.cls ≠ .ref 74) : @Ne Nat x y := fun e => by
  have e : x = y := e
  subst e
  have z := congrArg Obj.cls (Option.some.inj ((N _ h1).1.symm.trans (N _ h2).1))
  exact hd z.symm
local macro_rules | `(tactic| walk_at $s:str) => wk "S=exec For Name Name cons nil|exec For Name Attribute cons nil|call builtin:list.append;HV=nx_hv;NM=eval Name;D=FPost;ST=subscriptTail" s
section
variable {w : World} {mean : ExcName → Option Value} {mg mb : Str → Option Value} {base : Heap} {outer : List Env} {g : Heap} {gs : Array GenState} {dr : Drawn} {tk : Nat} {os : OsState} {Q E : Value → Shared → Prop}
theorem c_doneC {a : Lay} {n : Nat} {np : Nat → Int} {sc : Nat → List Nat} {Wl : Led} {g₀ : Heap} {k1 k2 k3 k4 t3 t4 : Tok} {po fi : Int} {od : Obj} {rs vs : List Value} {rd : List Int} {c : Nat} {ps : List Nat} {ra : Addr}
   (e₀ : hideAll g (a.S :: a.ds :: a.d :: ra :: Wl.map (·.1)) = g₀) (C : Cx w mean mg mb 0 base outer g₀) (hS : g.get? a.S = some (instObj 171 a.ds)) (hds : g.get? a.ds = some (sDict w k1 k2 k3 k4 a.d (.ref ra) po t3 fi t4)) (hd : g.get? a.d = some od) (hra : g.get? ra = some (W.listOf rs.toArray c)) (hrs : IntsAre rs rd) (hWl : ∀ p ∈ Wl, g.get? p.1 = some p.2)
   (hdo : od.IsDictOf (intKind Challenge.rw_ny0273_01.row.prog w) ((List.range n).map fun j : Nat => ((j : Int), Value.ref (a.ia j)))) (lo : (a.d == sysModules) = false) (ne : @LT.lt Nat _ a.ds a.S ∧ @LT.lt Nat _ a.S a.d ∧ @Ne Nat a.ds ra ∧ @Ne Nat a.S ra ∧ @Ne Nat a.d ra) (hn : n ≤ 20) (M : TsM a n np (fun j => (sc j).map fun p : Nat => (p : Int)) Wl) (Wr : ∀ p ∈ Wl, p.1 ≠ ra)
   (hvs : IntsAre vs (ps.map fun p : Nat => (p : Int))) (hps : ∀ p ∈ ps, p < n) (hlen : vs.length ≤ 3) (hsc : ∀ p, p < n → ∀ q ∈ sc p, q < n) (hout : ∀ k p, ps[k]? = some p → (dnAll sc (ps.take k) (np, rd)).1 p = -1)
   (hs9 : ∀ p, (sc p).length ≤ 9) (hrd : rd.length ≤ 100)
   (ret : ∀ (rs' : List Value) (c' : Nat) (t4' : Tok) (Wl' : Led) h' tk', Keeps g₀ h' → (∀ p ∈ (a.S, instObj 171 a.ds) :: (a.ds, sDict w k1 k2 k3 k4 a.d (.ref ra) po t3 (fi + vs.length) t4') :: (a.d, od) :: (ra, W.listOf rs'.toArray c') :: Wl', h'.get? p.1 = some p.2 ∧ g₀.get? p.1 = none) →
     IntsAre rs' (dnAll sc ps (np, rd)).2 → TsM a n (dnAll sc ps (np, rd)).1 (fun j => (sc j).map fun p : Nat => (p : Int)) Wl' → (∀ p ∈ Wl', p.1 ≠ ra) → Q .none ⟨h', gs, dr, tk', os⟩) :
   codeAny (model Challenge.rw_ny0273_01.row.prog w) (AA 0 outer) (.call (.ref 154) ⟨.ref a.S :: vs, []⟩) (fun r s' => match r with | .ok (.ret v) => Q v s' | .ok _ => False | .error e => E e s') ⟨g, gs, dr, tk, os⟩ := by
  have X := C.X; revert X; k_fill; intro X
  refine' enterV vs (fun D => [(Str.ofString "nodes", .ref D), (Str.ofString "self", .ref a.S)]) (g₁ := fun D => some [(Str.ofString "self", .ref a.S), (Str.ofString "nodes", .ref D)]) ((a.S, instObj 171 a.ds) :: (a.ds, sDict w k1 k2 k3 k4 a.d (.ref ra) po t3 fi t4) :: (a.d, od) :: (ra, W.listOf rs.toArray c) :: Wl) (by subst e₀; exact C) (all_cons hS (all_cons hds (all_cons hd (all_cons hra hWl)))) ?ho ?hcd ?hb ?hg ?hl ?c1 ?c2 ?c3 ?c4 ?_
  k_dflt ((case ho => k_is); (case hcd => k_is); (case hg => intro D; exact rfl); (case c4 => decide); (case hl => intro D; exact locs rfl); (case c1 => exact rfl); (case c2 => exact rfl); (case c3 => exact rfl); k_whole)
  case hb =>
    rcases short vs hlen with rfl | ⟨x, rfl⟩ | ⟨x, y, rfl⟩ | ⟨x, y, z, rfl⟩
    all_goals (with_unfolding_all exact rfl)
  intro D g' L h1 tk1 lD eg F1 N1 B1 X1 T1
  obtain rfl : g' = g₀ := eg.trans e₀
  obtain ⟨ne1, ne2, ne3, ne4, ne5⟩ := ne
  (try dsimp only)
  (try k_fold)
  k_steps
  unfold NxStop
  rename News _ _ _ _ => N5
  rename Fr _ _ _ _ => F5
  refine for_tup (h₀ := g') (L := L) (its := vs.toArray) rfl (fun _ => rfl) (DnInv w a n D ra vs od k1 k2 k3 k4 t3 po fi sc (np, rd) ps) ?_
  k_steps
  unfold NxStop
  rename News _ _ _ _ => N6
  rename Fr _ _ _ _ => F6
  refine ⟨_, _, _, rfl, F6, N6, ?g0, fun _ _ _ hG => ?gm, fun gg => ⟨?trn, ?fin⟩⟩
  case g0 => exact ⟨Wl, rs, c, t4, rfl, rfl, rfl, by rw [show fi + ((0 : Nat) : Int) = fi by simp], hrs, M, fun p hp => ⟨Wr p hp, Nat.ne_of_lt (lD p (.tail _ (.tail _ (.tail _ (.tail _ hp)))))⟩⟩
  case gm => obtain ⟨_, _, _, _, _, _, _, e, _⟩ := hG; rw [e]; exact .head _
  case fin =>
    rintro m nw h tk ⟨Wl2, rs2, c2, t42, m1, m2, m3, rfl, hrs2, M2, of2⟩ F8 N8
    k_steps
    have hlen2 : vs.toArray.size = ps.length := by rw [List.size_toArray, ints_len hvs, List.length_map]
    rw [hlen2, List.take_length] at M2 hrs2
    have e0 : (fi + ((vs.toArray.size : Nat) : Int)) = fi + (vs.length : Int) := by simp
    rw [e0] at N8
    exact ret rs2 c2 t42 Wl2 h tk F8.keep (fun p hp => ⟨(N8 p (.tail _ hp)).1, (N8 p (.tail _ hp)).2.2⟩) hrs2 M2 (fun p hp => (of2 p hp).1)
  case trn =>
    rintro I k v m nw oI h tk hk ⟨Wl2, rs2, c2, t42, m1, m2, m3, rfl, hrs2, M2, of2⟩ F8 N8 off8
    refine hide_turn fun Q1 hQ1 => ?_
    obtain ⟨p, tp, hp, rfl⟩ : ∃ p tp, ps[k]? = some p ∧ v = .int (p : Int) tp := by
      obtain ⟨x, tx, h1, h2⟩ := ints_get hvs (by simpa using hk)
      rw [List.getElem?_map, Option.map_eq_some_iff] at h1
      obtain ⟨p, h3, h4⟩ := h1
      exact ⟨p, tx, h3, by rw [h2, h4]⟩
    have hpn := hps p (List.mem_of_getElem? hp)
    obtain ⟨⟨ti, ti', hmi⟩, hmd, us, cu, hms, hus⟩ := M2.inf p hpn
    rw [hout k p hp] at hmi
    k_steps
    rename Fr _ _ _ _ => F9
    rename News _ _ _ _ => N9
    refine kdg_get1 N9 (.tail _ (.tail _ (.tail _ (.tail _ (.head _))))) hdo lo (intKind_is _ _ _ _) _ (value_some hpn) ?_
    dsimp only [Option.getD]
    have N9w : News g' L _ Wl2 := fun q hq => N9 q (.tail _ (.tail _ (.tail _ (.tail _ (.tail _ (.tail _ hq))))))
    have oi := M2.off _ hmi
    have n1 : @Ne Nat (a.ia p) D := (of2 _ hmi).2
    have n2 : @Ne Nat (a.ia p) ra := (of2 _ hmi).1
    have n3 : @Ne Nat (a.ia p) I := off8 _ (.tail _ (.tail _ (.tail _ (.tail _ (.tail _ hmi)))))
    have n4 : @Ne Nat (a.ia p) a.S := oi.1
    have n5 : @Ne Nat (a.ia p) a.ds := oi.2.1
    have n6 : @Ne Nat (a.ia p) a.d := oi.2.2
    have hmd' : (a.da p, W.dictOf [] 0) ∈ pull (a.ia p) Wl2 := mem_pull hmd (Ne.symm (inf_off N9w hmi hmd (by simp)))
    have poff : ∀ q ∈ pull (a.ia p) Wl2, q.1 ≠ a.ia p := pull_off
    have N10 := pull_news [_, _, _, _, _, _] N9 hmi
    have M3 := TsM.setNp N9w M2 hpn (x := -2) (t := ti) (t' := 364)
    have hms' : (a.sa p, W.listOf us.toArray cu) ∈ pull (a.ia p) Wl2 := mem_pull hms (Ne.symm (inf_off N9w hmi hms (by simp)))
    clear N9 N9w
    simp only [List.cons_append, List.nil_append] at N10
    k_steps
    unfold NxStop
    rename Fr _ _ _ _ => F11
    rename News _ _ _ _ => N11
    refine for_list (h₀ := g') (L := L) (its := us.toArray) rfl (fun _ => rfl) (InInv w a n I oI D ra vs od k1 k2 k3 k4 t3 t42 po (fi + k) sc (fun j => if j = p then -2 else (dnAll sc (ps.take k) (np, rd)).1 j, (dnAll sc (ps.take k) (np, rd)).2) p us cu) ?_
    k_steps
    unfold NxStop
    rename Fr _ _ _ _ => F12
    rename News _ _ _ _ => N12
    have N12' := news_last N12
    refine ⟨_, _, _, rfl, F12, N12', ?h0, fun _ _ _ hG => ?hm, fun gg => ⟨?turn, ?ends⟩⟩
    case h0 => exact ⟨_, rs2, c2, by walk_at "nx_hv", by walk_at "nx_hv", by walk_at "nx_hv", rfl, hrs2, M3, fun q hq => (List.mem_cons.mp hq).elim (fun e => by rw [e]; exact ⟨n2, n1, n3⟩) (fun e => ⟨(of2 q (pull_mem e).1).1, (of2 q (pull_mem e).1).2, off8 q (.tail _ (.tail _ (.tail _ (.tail _ (.tail _ (pull_mem e).1)))))⟩), .tail _ hms'⟩
    case hm => obtain ⟨Wl5, rs5, c5, _, _, _, e, _, _, _, hs5⟩ := hG; rw [e]; exact .inr ⟨_, .tail _ (.tail _ (.tail _ (.tail _ (.tail _ (.tail _ hs5))))), rfl, _, rfl⟩
    case ends =>
      rintro m nw h tk ⟨Wl5, rs5, c5, m1, m2, m3, rfl, hrs5, M5, of5, hs5⟩ F13 N13
      have Wds : ∀ x ∈ Wl5, x.1 ≠ a.ds := fun x hx => (M5.off x hx).2.1
      have Ids : @Ne Nat I a.ds := Ne.symm (off8 (a.ds, sDict w k1 k2 k3 k4 a.d (.ref ra) po t3 (fi + k) t42) (.tail _ (.tail _ (.head _))))
      have Dds : @Ne Nat D a.ds := Nat.ne_of_gt (lD (a.ds, sDict w k1 k2 k3 k4 a.d (.ref ra) po t3 fi t4) (.tail _ (.head _)))
      k_steps
      rename Fr _ _ _ _ => F16
      rename News _ _ _ _ => N16
      obtain ⟨t4', N16⟩ : ∃ t4', News g' L _ ((I, oI) :: (D, ({ cls := .type "tuple", data := .seq vs.toArray } : Obj)) :: (a.S, instObj 171 a.ds) :: (a.ds, sDict w k1 k2 k3 k4 a.d (.ref ra) po t3 (fi + ((k + 1 : Nat) : Int)) t4') :: (a.d, od) :: (ra, W.listOf rs5.toArray c5) :: Wl5) := ⟨_, by rw [show fi + ((k + 1 : Nat) : Int) = fi + k + 1 by omega]; exact N16⟩
      have hul : us.toArray.size = (sc p).length := by rw [List.size_toArray, ints_len hus, List.length_map]
      rw [hul, List.take_length] at hrs5 M5
      refine post_of hQ1 ?_
      show FEnd _ _ _ _ _ _ _
      refine FEnd.intro F16 N16 _ (fun p hp => hp) (all_cons (off8 (D, ({ cls := .type "tuple", data := .seq vs.toArray } : Obj)) (.head _)) (all_cons (off8 (a.S, instObj 171 a.ds) (.tail _ (.head _))) (all_cons (off8 (a.ds, sDict w k1 k2 k3 k4 a.d (.ref ra) po t3 (fi + k) t42) (.tail _ (.tail _ (.head _)))) (all_cons (off8 (a.d, od) (.tail _ (.tail _ (.tail _ (.head _))))) (all_cons (off8 (ra, W.listOf rs2.toArray c2) (.tail _ (.tail _ (.tail _ (.tail _ (.head _)))))) (fun x hx => (of5 x hx).2.2)))))) ⟨Wl5, rs5, c5, t4', by walk_at "nx_hv", by walk_at "nx_hv", by walk_at "nx_hv", rfl, ?_, ?_, fun x hx => ⟨(of5 x hx).1, (of5 x hx).2.1⟩⟩
      · rw [dnN_succ hp]; exact hrs5
      · rw [dnN_succ hp]; exact M5
    case turn =>
      rintro J i v m nw oJ h tk hi ⟨Wl5, rs5, c5, m1, m2, m3, rfl, hrs5, M5, of5, hs5⟩ F13 N13 off13
      refine hide_turn fun Q2 hQ2 => ?_
      obtain ⟨q, tq, hq, rfl⟩ : ∃ q tq, (sc p)[i]? = some q ∧ v = .int (q : Int) tq := by
        obtain ⟨x, tx, h1, h2⟩ := ints_get hus (by simpa using hi)
        rw [List.getElem?_map, Option.map_eq_some_iff] at h1
        obtain ⟨q, h3, h4⟩ := h1
        exact ⟨q, tx, h3, by rw [h2, h4]⟩
      have hqn : q < n := hsc p hpn q (List.mem_of_getElem? hq)
      obtain ⟨st', hst'⟩ : ∃ st', st' = ((sc p).take i).foldl dnS (fun j => if j = p then -2 else (dnAll sc (ps.take k) (np, rd)).1 j, (dnAll sc (ps.take k) (np, rd)).2) := ⟨_, rfl⟩
      rw [← hst'] at hrs5 M5
      obtain ⟨⟨ti5, ti5', hmi5⟩, hmd5, us5, cu5, hms5, hus5⟩ := M5.inf q hqn
      k_steps
      unfold NxStop
      rename Fr _ _ _ _ => F14
      rename News _ _ _ _ => N14
      refine kdt_tail N14 (.tail _ (.tail _ (.tail _ (.tail _ (.tail _ (.head _)))))) hdo (kdt_getItem N14 (.tail _ (.tail _ (.tail _ (.tail _ (.tail _ (.head _)))))) hdo (intKind_is _ _ _ _) (value_some hqn) ?_)
      have N14w : News g' L _ Wl5 := fun q hq => N14 q (.tail _ (.tail _ (.tail _ (.tail _ (.tail _ (.tail _ (.tail _ hq)))))))
      have oi := M5.off _ hmi5
      have n1 : @Ne Nat (a.ia q) D := (of5 _ hmi5).2.1
      have n2 : @Ne Nat (a.ia q) ra := (of5 _ hmi5).1
      have n3 : @Ne Nat (a.ia q) I := (of5 _ hmi5).2.2
      have n4 : @Ne Nat (a.ia q) a.S := oi.1
      have n5 : @Ne Nat (a.ia q) a.ds := oi.2.1
      have n6 : @Ne Nat (a.ia q) a.d := oi.2.2
      have n7 : @Ne Nat (a.ia q) J := off13 _ (.tail _ (.tail _ (.tail _ (.tail _ (.tail _ (.tail _ hmi5))))))
      have hmd5' : (a.da q, W.dictOf [] 0) ∈ pull (a.ia q) Wl5 := mem_pull hmd5 (Ne.symm (inf_off N14w hmi5 hmd5 (by simp)))
      have poff5 : ∀ x ∈ pull (a.ia q) Wl5, x.1 ≠ a.ia q := pull_off
      have N15 := pull_news [_, _, _, _, _, _, _] N14 hmi5
      have M6 := fun t' => TsM.setNp N14w M5 hqn (x := st'.1 q - 1) (t := ti5) (t' := t')
      have M6' : ∀ t', TsM a n (dnS st' q).1 (fun j => (sc j).map fun p : Nat => (p : Int)) ((a.ia q, infObj (a.da q) q ti5 (st'.1 q - 1) t' (a.sa q)) :: pull (a.ia q) Wl5) := fun t' => by
        have := M6 t'
        have e : (fun j => if j = q then st'.1 q - 1 else st'.1 j) = (dnS st' q).1 := by funext j; unfold dnS; by_cases e : j = q <;> simp [e]
        rwa [e] at this
      have hs5' : (a.sa p, W.listOf us.toArray cu) ∈ pull (a.ia q) Wl5 := mem_pull hs5 (Ne.symm (inf_off N14w hmi5 hs5 (by simp)))
      clear N14 N14w
      simp only [List.cons_append, List.nil_append] at N15
      have oJ1 := off13 _ (.tail _ (.tail _ (.tail _ (.tail _ (.tail _ (.head _))))))
      have oI1 := off8 (ra, W.listOf rs2.toArray c2) (.tail _ (.tail _ (.tail _ (.tail _ (.head _)))))
      have lra : @LT.lt Nat _ ra D := lD (ra, W.listOf rs.toArray c) (.tail _ (.tail _ (.tail _ (.head _))))
      have hrl : rs5.length ≤ 200 := by
        rw [ints_len hrs5, hst']
        refine Nat.le_trans dnS_len ?_
        have h1 := dn_len hs9 (l := ps.take k) (st := (np, rd))
        have h2 : (ps.take k).length ≤ ps.length := by rw [List.length_take]; omega
        have h3 : vs.length = ps.length := by rw [ints_len hvs, List.length_map]
        have h4 : ((sc p).take i).length ≤ 9 := Nat.le_trans (by rw [List.length_take]; omega) (hs9 p)
        dsimp only at h1 ⊢
        omega
      have fin : ∀ {h' : Heap} {m' : Loc} {tk' : Nat} (rs6 : List Value) (c6 : Nat) (t' : Tok), Fr g' L h' m' → News g' L h' ((a.ia q, infObj (a.da q) q ti5 (st'.1 q - 1) t' (a.sa q)) :: (J, oJ) :: (I, oI) :: (D, ({ cls := .type "tuple", data := .seq vs.toArray } : Obj)) :: (a.S, instObj 171 a.ds) :: (a.ds, sDict w k1 k2 k3 k4 a.d (.ref ra) po t3 (fi + k) t42) :: (a.d, od) :: (ra, W.listOf rs6.toArray c6) :: pull (a.ia q) Wl5) →
          IntsAre rs6 (dnS st' q).2 → m' (Str.ofString "self") = some (.ref a.S) → m' (Str.ofString "n2i") = some (.ref a.d) → m' (Str.ofString "nodes") = some (.ref D) →
          ∀ s : Shared, FEnd g' L s J oJ (InInv w a n I oI D ra vs od k1 k2 k3 k4 t3 t42 po (fi + k) sc (fun j => if j = p then -2 else (dnAll sc (ps.take k) (np, rd)).1 j, (dnAll sc (ps.take k) (np, rd)).2) p us cu (i + 1)) { s with heap := h', toks := tk' } := by
        intro h' m' tk' rs6 c6 t' F' N' hr6 q1 q2 q3 s
        refine FEnd.intro F' N' ((I, oI) :: (D, ({ cls := .type "tuple", data := .seq vs.toArray } : Obj)) :: (a.S, instObj 171 a.ds) :: (a.ds, sDict w k1 k2 k3 k4 a.d (.ref ra) po t3 (fi + k) t42) :: (a.d, od) :: (ra, W.listOf rs6.toArray c6) :: (a.ia q, infObj (a.da q) q ti5 (st'.1 q - 1) t' (a.sa q)) :: pull (a.ia q) Wl5) (picks [1, 2, 3, 4, 5, 6, 7, 0] 8) (all_cons (off13 _ (.head _)) (all_cons (off13 _ (.tail _ (.head _))) (all_cons (off13 _ (.tail _ (.tail _ (.head _)))) (all_cons (off13 _ (.tail _ (.tail _ (.tail _ (.head _))))) (all_cons (off13 _ (.tail _ (.tail _ (.tail _ (.tail _ (.head _)))))) (all_cons oJ1 (all_cons n7 (fun x hx => off13 x (.tail _ (.tail _ (.tail _ (.tail _ (.tail _ (.tail _ ((pull_mem hx).1))))))))))))))) ⟨_, rs6, c6, q1, q2, q3, rfl, ?_, ?_, fun x hx => ?x2, .tail _ hs5'⟩
        · rw [dnS_succ hq, ← hst']; exact hr6
        · rw [dnS_succ hq, ← hst']; exact M6' t'
        case x2 =>
          rcases List.mem_cons.mp hx with e | e
          · rw [e]; exact ⟨n2, n1, n3⟩
          · exact of5 x (pull_mem e).1
      k_steps
      · unfold NxStop
        rename Fr _ _ _ _ => F17
        rename News _ _ _ _ => N17
        rename st'.1 q - 1 = 0 => hz
        refine append_K F17 N17 (.tail n2 (.tail (Ne.symm oJ1) (.tail (Ne.symm oI1) (.tail (Nat.ne_of_gt lra) (.tail ne4 (.tail ne3 (.tail ne5 (.head (fun x hx => (of5 x (pull_mem hx).1).1))))))))) (fun h18 F18 N18 => ?_) (by simp [sizeLine_eq]; omega)
        k_steps
        refine post_of hQ2 ?_
        refine fin (rs5 ++ [.int q tq]) (c5 + 1) _ F18 (by simpa using N18) ?_ (by walk_at "nx_hv") (by walk_at "nx_hv") (by walk_at "nx_hv") _
        unfold dnS; rw [if_pos hz]; exact ints_snoc hrs5
      · rename Fr _ _ _ _ => F17
        rename News _ _ _ _ => N17
        rename st'.1 q - 1 ≠ 0 => hz
        refine post_of hQ2 ?_
        refine fin rs5 c5 _ F17 N17 ?_ (by walk_at "nx_hv") (by walk_at "nx_hv") (by walk_at "nx_hv") _
        unfold dnS; rw [if_neg hz]; exact hrs5
end
end Mine
end
section
open PySem PySem.W PyProof.Rows
theorem Mine.anew15 {M : Model} {A : Around} {env : Env} {Q : Flow → Shared → Prop} {E : Value → Shared → Prop} {s : Shared} (h : wpAny M A (execs [] env) Q E s) : wpAny M A (execs [] env) Q E s := by first | (walk1; done) | exact h
end
section
open PySem PySem.W PyProof.Rows PySem.Calls PyProof.Rows.LCg
set_option maxHeartbeats 1000000
namespace Mine
/-- an iterator's bound next -/
noncomputable abbrev wrapO (I : Addr) : Obj := { cls := .type "method-wrapper", data := .fields #[.builtin "list_iterator.__next__", .ref I] }
noncomputable abbrev iterO (l : Addr) (i : Nat) : Obj := { cls := .type "list_iterator", data := .fields #[.ref l, .int i 0] }
theorem quiet_next {as : Args} : (Code.builtin "list_iterator.__next__" as).quiet = true := Code.quiet_builtin _ (by decide +kernel)
theorem check_next {I : Addr} : checkBoundCall "list_iterator.__next__" ⟨[.ref I], []⟩ = pure () := by first | kernel_rfl | rfl
section
variable {prog : Program} {w : World} {A : Around} {s : Shared} {Q E : Value → Shared → Prop}
theorem next_call {B I : Addr} (hB : s.heap.get? B = some (wrapO I)) (h : wpAny (model prog w) (A.under (.builtin "list_iterator.__next__" ⟨[.ref I], []⟩)) (Builtin.«list_iterator.__next__» ⟨[.ref I], []⟩) (fun fin s' => ∃ v, fin = .done (.ret v) ∧ Q v s') E s) : wpAny (model prog w) A (call (.ref B) []) Q E s := by
  refine wpAny_call (codeAny_of_tree ?_)
  show wpAny _ A.in1 (callAny (.ref B) ⟨[], []⟩) _ _ s
  simp only [callAny]
  refine wpAny_bind (wpAny_load hB ?_)
  dsimp only [wrapO]
  refine KFB.if_so (by decide) ?_
  refine KFB.if_so (by decide) ?_
  refine wpAny_bind (wpAny_of_eq (a := ()) check_next ?_)
  refine wpAny_bind (wpAny_pure (wpAny_pure ?_))
  refine ⟨quiet_next, codeAny_builtin entry_listiter_next (wpAny_mono h (fun fin s' hf => ?_) fun _ _ e => e)⟩
  obtain ⟨v, rfl, q⟩ := hf
  exact q
theorem next_yes {B I l : Addr} {i : Nat} {items : Array Value} {x : Value} (hB : s.heap.get? B = some (wrapO I)) (hI : s.heap.get? I = some (iterO l i)) (hl : s.heap.IsList l items) (hx : items[i]? = some x)
    (hQ : ∀ h', h'.get? I = some (iterO l (i + 1)) → Heap.SameBut I s.heap h' → Q x { s with heap := h' }) : wpAny (model prog w) A (call (.ref B) []) Q E s := by
  refine next_call hB ?_
  obtain ⟨ol, hol, _, nl, hdl⟩ := hl
  show wpAny _ _ (field (.ref I) 0 >>= _) _ _ s
  refine wpAny_bind (wpAny_field hI rfl (x := .ref l) rfl ?_)
  show wpAny _ _ (if (Value.ref l == Value.none) = true then _ else _) _ _ s
  rw [if_neg (show ¬ ((Value.ref l == Value.none) = true) from Bool.false_ne_true)]
  show wpAny _ _ (field (.ref I) 1 >>= _) _ _ s
  refine wpAny_bind (wpAny_field hI rfl (x := .int i 0) rfl ?_)
  show wpAny _ _ (seqItems? (.ref l) >>= _) _ _ s
  refine wpAny_bind (wpAny_seqItems hol hdl ?_)
  simp only [Int.toNat_natCast, hx]
  refine wpAny_bind (wpAny_setField hI rfl (by simp) (wpAny_pure ⟨x, rfl, hQ _ ?_ (Heap.SameBut.update ..)⟩))
  exact Heap.get?_update_self _ hI (Obj.isFreed_of_fields (Obj.data_mapFields rfl _))
theorem next_end {B I l : Addr} {i : Nat} {items : Array Value} (hh : A.handled = none) (hB : s.heap.get? B = some (wrapO I)) (hI : s.heap.get? I = some (iterO l i)) (hl : s.heap.IsList l items) (hx : items[i]? = none)
    (hE : ∀ e h₁ h', Heap.SameBut I s.heap h₁ → (∃ o, h₁.get? I = some o) → Heap.NewExc h₁ h' e "StopIteration" → E (.ref e) { s with heap := h' }) : wpAny (model prog w) A (call (.ref B) []) Q E s := by
  refine next_call hB ?_
  obtain ⟨ol, hol, _, nl, hdl⟩ := hl
  show wpAny _ _ (field (.ref I) 0 >>= _) _ _ s
  refine wpAny_bind (wpAny_field hI rfl (x := .ref l) rfl ?_)
  show wpAny _ _ (if (Value.ref l == Value.none) = true then _ else _) _ _ s
  rw [if_neg (show ¬ ((Value.ref l == Value.none) = true) from Bool.false_ne_true)]
  show wpAny _ _ (field (.ref I) 1 >>= _) _ _ s
  refine wpAny_bind (wpAny_field hI rfl (x := .int i 0) rfl ?_)
  show wpAny _ _ (seqItems? (.ref l) >>= _) _ _ s
  refine wpAny_bind (wpAny_seqItems hol hdl ?_)
  simp only [Int.toNat_natCast, hx]
  refine wpAny_bind (wpAny_rule (wpAny_bind (wpAny_setField hI rfl (by simp) ?_)))
  show wpAny _ _ (newExc (.type "StopIteration") [] >>= _) _ _ _
  refine wpAny_bind ?_
  simp only [newExc, newTuple]
  refine wpAny_bind (wpAny_newObj_type ?_ (by size_fits))
  refine wpAny_bind (m := firstArgMember _ _) (wpAny_of_eq (a := Value.none) (by first | rfl | (simp only [firstArgMember]; rfl)) ?_)
  refine wpAny_newObj_type ?_ (by size_fits)
  simp only [raiseNew]
  refine wpAny_bind (wpAny_handled ?_)
  rw [show (A.under (.builtin "list_iterator.__next__" ⟨[.ref I], []⟩)).handled = none from hh]
  refine wpAny_bind (wpAny_pure (wpAny_throw ?_))
  refine hE _ _ _ (Heap.SameBut.update ..) ⟨_, Heap.get?_update_self _ hI (Obj.isFreed_of_fields (Obj.data_mapFields rfl _))⟩ ⟨fun b o e => Heap.get?_push_of_some _ (Heap.get?_push_of_some _ e), ?_, _, _, Heap.get?_push_size _ rfl, rfl, rfl⟩
  exact Heap.get?_none_of_le (by simp [Heap.push])
end
section
variable {prog : Program} {w : World} {A₀ : Around} {E : Value → Shared → Prop} {s' : Shared} {base g h : Heap} {outer : List Env} {L a e : Addr} {m : Str → Option Value} {name : Str} {scope : Scope} {cd : Value}
  {b₀ : Stmt} {suite : List Stmt} {pos : Pos} {rest hs : List ExceptHandler} {Q : Flow → Shared → Prop} {news : List (Addr × Obj)} {KF : Frag} {tt : PySem.Expr} {X : String}
  {p : Program} {loose : List Str} {mean : ExcName → Option Value} {mg mb : Str → Option Value}
/-- an exception that the frame itself has met, caught in it; the frames below are touched in their slots alone -/
theorem caught_here (K : Below A₀ base outer g) (hx : Heap.NewExc h s'.heap e X) (F : Fr g L h m) (N : News g L h news) (XB : KF.In base) (TB : Top p loose mean mg mb base) (D : KtsDicts (outer.filterMap (·.frame)) g)
    (T : KtsTest prog w KF p loose mg mb name scope L a cd (.type X) tt true)
    (k : ∀ h' g', KtsTurn (outer.filterMap (·.frame)) g g' → Fr g' L h' m → News g' L h' news → Below A₀ base outer g' → KF.In g' → Top p loose mean mg mb g' → KtsDicts (outer.filterMap (·.frame)) g' →
      wpAny (model prog w) ((A₀.deeper (envOf name scope L a cd)).mark (some (.ref e))) (execs (b₀ :: suite) (envOf name scope L a cd)) Q E { s' with heap := h' }) (hk : scope.kind = .function := by rfl)
    (hE : PassesOwnAt (model prog w) ((A₀.deeper (envOf name scope L a cd)).mark (some (.ref e))) (A₀.deeper (envOf name scope L a cd)) (envOf name scope L a cd) E := by passes_own) :
    wpAny (model prog w) (A₀.deeper (envOf name scope L a cd)) (noteFrame (.ref e) (envOf name scope L a cd))
      (fun _ s₂ => wpAny (model prog w) (A₀.deeper (envOf name scope L a cd)) (setFlight (.ref e) none) (fun _ s₃ =>
        wpAny (model prog w) (A₀.deeper (envOf name scope L a cd)) (handleBy (.ref e) (envOf name scope L a cd) (.ExceptHandler (some tt) none (b₀ :: suite) pos :: rest)) Q E s₃) E s₂) E s' := by
  have K' := K.push (name := name) (a := a) (cd := cd) F hk
  have hin : ∀ env ∈ (envOf name scope L a cd :: outer), ∀ b, env.frame = some b → b ∈ (envOf name scope L a cd :: outer).filterMap (·.frame) := fun env he b hb => List.mem_filterMap.mpr ⟨env, he, hb⟩
  have st : base.StaysIn (hideAll h ((envOf name scope L a cd :: outer).filterMap (·.frame))) := fun b o q => hideAll_get _ (K'.stays b o q) fun hm => by
    rw [(K'.frames.mem hm).1] at q; cases q
  have hl : ∀ q ∈ news, (hideAll h ((envOf name scope L a cd :: outer).filterMap (·.frame))).get? q.1 = some q.2 ∧ (hideAll h (news.map (·.1))).get? q.1 = none ∧ base.get? q.1 = none := fun q hq => by
    refine ⟨hideAll_get _ (N q hq).1 fun hm => ?_, hideAll_none _ (List.mem_map_of_mem hq), fresh_of_stays K.stays (N q hq).2.2⟩
    obtain ⟨env, he, hf⟩ := List.mem_filterMap.mp hm
    rcases List.mem_cons.mp he with rfl | he
    · exact (N q hq).2.1 (Option.some.inj hf).symm
    · obtain ⟨o, ho, _⟩ := (K.frames.mem (List.mem_filterMap.mpr ⟨env, he, hf⟩)).2
      rw [(N q hq).2.2] at ho; cases ho
  have FG : Fr g L (hideAll h (news.map (·.1))) m := by
    refine ⟨F.ns.at' fun o e => hideAll_get _ e fun hm => ?_, fun b o q => hideAll_get _ (F.keep b o q) fun hm => ?_, F.above⟩
    · obtain ⟨q, hq, e⟩ := List.mem_map.mp hm
      exact (N q hq).2.1 e
    · obtain ⟨p, hp, rfl⟩ := List.mem_map.mp hm
      rw [(N p hp).2.2] at q; cases q
  obtain ⟨ob, tp, he, hcls, hd⟩ := hx.there
  have hen : (hideAll h ((envOf name scope L a cd :: outer).filterMap (·.frame))).get? e = none := by
    cases q : (hideAll h ((envOf name scope L a cd :: outer).filterMap (·.frame))).get? e with
    | none => rfl
    | some o => have := of_hideAll _ q; rw [hx.new] at this; cases this
  unfold noteFrame
  simp only [show (envOf name scope L a cd).frame = some L from rfl]
  refine wpAny_bind (wpAny_field he hd (x := .none) rfl ?_)
  rw [if_neg (by decide)]
  refine wpAny_entryW (a0 := tp) K'.stack ((funFrames_hide K'.frames hin).of_keeps fun b o hb _ => ⟨o, hx.keeps b o hb, rfl⟩) rfl he (fun b o eb => hx.keeps b o (of_hideAll _ eb)) hen hd (by show 1 < 6; decide) rfl fun h₄ hN => ?_
  obtain ⟨k1, k2, k3, k4⟩ := hN
  rw [hcls] at k3
  refine wpAny_landsW ⟨k1, hen, k2, k3⟩ fun h₅ hfl hsm₅ => ?_
  have R : RaisedSN base (hideAll h (news.map (·.1))) (envOf name scope L a cd :: outer) e (.type X) news h₅ := ⟨_, tp, st, fun b o q nm => hideAll_get _ (of_hideAll _ q) nm, hl, hfl⟩
  have hsm : (hideAll h (news.map (·.1))).UpToSlots h₅ := ((Heap.UpToSlots.of_keeps fun b o q => hx.keeps b o (of_hideAll _ q)).trans k4).trans hsm₅
  exact hit_SN0 R FG K hsm XB TB D KtsTurn.refl T k hE
end
/-- the grounds that a frame may stand on after exceptions were caught -/
structure Gd (w : World) (mean : ExcName → Option Value) (mg mb : Str → Option Value) (A₀ : Around) (base : Heap) (outer : List Env) (g g' : Heap) : Prop where
  T : KtsTurn (outer.filterMap (·.frame)) g g'
  B : Below A₀ base outer g'
  X : (Mine.hd.heap_1 w.params).In g'
  P : TopH mean mg mb g'
  D : KtsDicts (outer.filterMap (·.frame)) g'
theorem Gd.go {w : World} {mean : ExcName → Option Value} {mg mb : Str → Option Value} {A₀ : Around} {base : Heap} {outer : List Env} {g g' g'' : Heap} (x : Gd w mean mg mb A₀ base outer g g') (y : Gd w mean mg mb A₀ base outer g' g'') : Gd w mean mg mb A₀ base outer g g'' := ⟨x.T.trans y.T, y.B, y.X, y.P, y.D⟩
section
variable {prog : Program} {w : World} {A : Around} {s : Shared} {L : Addr} {env : Env} {Q : Flow → Shared → Prop} {Gr : Heap → Prop}
/-- where a turn of a while stands, the ground among what may change -/
noncomputable def WEndS (L : Addr) (s : Shared) (Gr : Heap → Prop) (G : Nat → Loc → Led → Prop) (n : Nat) (s₃ : Shared) : Prop :=
  ∃ g h tk m nw k, s₃ = { s with heap := h, toks := tk } ∧ Gr g ∧ Fr g L h m ∧ News g L h nw ∧ k < n ∧ G k m nw
noncomputable def WPostS (L : Addr) (s : Shared) (Gr : Heap → Prop) (G : Nat → Loc → Led → Prop) (n : Nat) (Q : Flow → Shared → Prop) (f : Flow) (s₃ : Shared) : Prop := match f with
  | .next | .cont => WEndS L s Gr G n s₃
  | .brk => Q .next s₃
  | .ret v => Q (.ret v) s₃
theorem WEndS.intro {G : Nat → Loc → Led → Prop} {n k : Nat} {g h : Heap} {tk : Nat} {m : Loc} {nw : Led} (hg : Gr g) (F : Fr g L h m) (N : News g L h nw) (hk : k < n) (hG : G k m nw) : WEndS L s Gr G n { s with heap := h, toks := tk } := ⟨g, h, tk, m, nw, k, rfl, hg, F, N, hk, hG⟩
theorem while_indS {test : PySem.Expr} {body orelse : List Stmt} {pos : Pos} (Gr : Heap → Prop) (G : Nat → Loc → Led → Prop)
    (turn : ∀ n g m nw h tk, Gr g → G n m nw → Fr g L h m → News g L h nw →
      wpAny (model prog w) A (isTrue test env (eval test env)) (fun b s₂ => if b = true then wpAny (model prog w) A (execs body env) (WPostS L s Gr G n Q) (fun _ _ => False) s₂ else wpAny (model prog w) A (execs orelse env) Q (fun _ _ => False) s₂) (fun _ _ => False) { s with heap := h, toks := tk })
    {n : Nat} {g : Heap} {m : Loc} {nw : Led} (hg : Gr g) (hG : G n m nw) (F : Fr g L s.heap m) (N : News g L s.heap nw) : wpAny (model prog w) A (exec (.While test body orelse pos) env) Q (fun _ _ => False) s := by
  refine wpAny_While (codeAny_whileLoop (fun n s' => ∃ g h tk m nw, s' = { s with heap := h, toks := tk } ∧ Gr g ∧ Fr g L h m ∧ News g L h nw ∧ G n m nw) (fun n s' hI => ?_) n ⟨g, s.heap, s.toks, m, nw, rfl, hg, F, N, hG⟩)
  obtain ⟨g, h, tk, m, nw, rfl, hg, F, N, hG⟩ := hI
  refine wpAny_mono (turn n g m nw h tk hg hG F N) (fun b s₂ h₂ => ?_) fun _ _ x => x.elim
  cases b with
  | true =>
    simp only [if_true] at h₂ ⊢
    refine wpAny_mono h₂ (fun f s₃ h₃ => ?_) fun _ _ x => x.elim
    cases f with
    | next => obtain ⟨g, h, tk, m, nw, k, rfl, hg, F, N, hk, hG⟩ := h₃; exact ⟨k, hk, g, h, tk, m, nw, rfl, hg, F, N, hG⟩
    | cont => obtain ⟨g, h, tk, m, nw, k, rfl, hg, F, N, hk, hG⟩ := h₃; exact ⟨k, hk, g, h, tk, m, nw, rfl, hg, F, N, hG⟩
    | brk => exact h₃
    | ret v => exact h₃
  | false =>
    simp only [Bool.false_eq_true, if_false] at h₂ ⊢
    exact wpAny_mono h₂ (fun _ _ x => x) fun _ _ x => x.elim
/-- where a turn of a for stands -/
noncomputable def FEndS (L : Addr) (s : Shared) (I : Addr) (oI : Obj) (Gr : Heap → Prop) (G : Loc → Led → Prop) (s₃ : Shared) : Prop :=
  ∃ g h tk m nw, s₃ = { s with heap := h, toks := tk } ∧ Gr g ∧ Fr g L h m ∧ News g L h ((I, oI) :: nw) ∧ (∀ p ∈ nw, p.1 ≠ I) ∧ G m nw
noncomputable def FPostS (L : Addr) (s : Shared) (I : Addr) (oI : Obj) (Gr : Heap → Prop) (G : Loc → Led → Prop) (Q : Flow → Shared → Prop) (f : Flow) (s₃ : Shared) : Prop := match f with
  | .next | .cont => FEndS L s I oI Gr G s₃
  | .brk => Q .next s₃
  | .ret v => Q (.ret v) s₃
theorem FEndS.intro {G : Loc → Led → Prop} {g h : Heap} {tk : Nat} {m : Loc} {I : Addr} {oI : Obj} {all : Led} (hg : Gr g) (F : Fr g L h m) (N : News g L h all) (nw : Led) (sub : ∀ p ∈ (I, oI) :: nw, p ∈ all) (off : ∀ p ∈ nw, p.1 ≠ I) (hG : G m nw) : FEndS L s I oI Gr G { s with heap := h, toks := tk } :=
  ⟨g, h, tk, m, nw, rfl, hg, F, fun p hp => N p (sub p hp), off, hG⟩
theorem for_genS {target : PySem.Expr} {body : List Stmt} {I : Addr} {fp : List Addr} {n : Nat} {P : Nat → Value → Prop} {St : Nat → Heap → Prop} {S : Led → Prop} {g₀ : Heap} {m : Loc} {nw : Led} (W : Walks prog w A I fp [I] n P St) (Gr : Heap → Prop)
    (hIo : ∀ i h, St i h → ∃ o, h.get? I = some o)
    (hSt : ∀ i g h h' o nw, Gr g → St i h → h.get? I = some o → h'.get? I = some o → News g L h' nw → S nw → St i h')
    (hgo : ∀ i v (s' : Shared) (Q' : Unit → Shared → Prop) (E' : Value → Shared → Prop), St i s'.heap → Q' () s' → wpAny (model prog w) A (letOwnedTupleGo target (.ref I) v) Q' E' s')
    (G : Nat → Loc → Led → Prop) (hGS : ∀ i m nw, G i m nw → S nw) (hst : St 0 s.heap) (hg : Gr g₀) (F : Fr g₀ L s.heap m) (N : News g₀ L s.heap nw) (hIL : L ≠ I) (hI₀ : ∀ g, Gr g → g.get? I = none) (off : ∀ p ∈ nw, p.1 ≠ I) (hG : G 0 m nw)
    (turn : ∀ i v g m nw oI h tk, i < n → P i v → Gr g → G i m nw → Fr g L h m → News g L h ((I, oI) :: nw) → (∀ p ∈ nw, p.1 ≠ I) →
      wpAny (model prog w) A (assign target env v) (fun _ s₂ => wpAny (model prog w) A (execs body env) (FPostS L s I oI Gr (G (i + 1)) Q) (fun _ _ => False) s₂) (fun _ _ => False) { s with heap := h, toks := tk })
    (fin : ∀ g m nw h tk, Gr g → G n m nw → Fr g L h m → News g L h nw → Q .next { s with heap := h, toks := tk }) {E : Value → Shared → Prop} :
    codeAny (model prog w) A (.forLoop target (.ref I) body [] env) (fun r s' => match r with | .ok f => Q f s' | .error e => cameBackBy (model prog w) A env E e s') s := by
  refine codeAny_forLoop_any (fun k s' => ∃ g h tk i m nw, s' = { s with heap := h, toks := tk } ∧ St i h ∧ Gr g ∧ Fr g L h m ∧ News g L h nw ∧ (∀ p ∈ nw, p.1 ≠ I) ∧ G i m nw ∧ i ≤ n ∧ k = n + 1 - i) (fun k s' hI => ?_) (n + 1) ⟨g₀, s.heap, s.toks, 0, m, nw, rfl, hst, hg, F, N, off, hG, Nat.zero_le _, rfl⟩
  obtain ⟨g, h, tk, i, m, nw, rfl, hst, hg, F, N, off, hG, hi, rfl⟩ := hI
  by_cases hlt : i < n
  · refine W.item i _ _ _ hlt hst fun v h₂ tk₂ hP hst₂ hk₂ => ?_
    obtain ⟨oI, hoI⟩ := hIo _ _ hst₂
    have F₂ : Fr g L h₂ m := fr_but F hk₂ hIL (hI₀ g hg)
    have N₂ : News g L h₂ ((I, oI) :: nw) := fun p hp => by
      rcases List.mem_cons.mp hp with rfl | hp
      · exact ⟨hoI, Ne.symm hIL, hI₀ g hg⟩
      · exact news_but N hk₂ off p hp
    refine hgo (i + 1) v _ _ _ hst₂ ?_
    refine wpAny_mono (turn i v g m nw oI h₂ tk₂ hlt hP hg hG F₂ N₂ off) (fun _ s₂ h₃ => ?_) fun _ _ x => x.elim
    refine wpAny_mono h₃ (fun f s₃ h₄ => ?_) fun _ _ x => x.elim
    have next : FEndS L s I oI Gr (G (i + 1)) s₃ → ∃ k', k' < n + 1 - i ∧ ∃ g h tk i m nw, s₃ = { s with heap := h, toks := tk } ∧ St i h ∧ Gr g ∧ Fr g L h m ∧ News g L h nw ∧ (∀ p ∈ nw, p.1 ≠ I) ∧ G i m nw ∧ i ≤ n ∧ k' = n + 1 - i := by
      rintro ⟨g, h, tk, m, nw, rfl, hg, F, N, off, hG⟩
      have N' : News g L h nw := fun p hp => N p (List.mem_cons_of_mem _ hp)
      exact ⟨n + 1 - (i + 1), by omega, g, h, tk, i + 1, m, nw, rfl, hSt _ g _ _ _ _ hg hst₂ hoI (N _ List.mem_cons_self).1 N' (hGS _ _ _ hG), hg, F, N', off, hG, hlt, rfl⟩
    cases f with
    | next => exact next h₄
    | cont => exact next h₄
    | brk => exact h₄
    | ret v => exact h₄
  · obtain rfl : i = n := Nat.le_antisymm hi (Nat.not_lt.mp hlt)
    refine W.done _ _ _ hst fun h₂ tk₂ hk₂ => ?_
    exact wpAny_execs_nil (fin g m nw h₂ tk₂ hg hG (fr_but F hk₂ hIL (hI₀ g hg)) (news_but N hk₂ off))
/-- a for with one name over the keys of a table of the ledger -/
theorem for_keysS {x : Str} {px : Pos} {iter : PySem.Expr} {body : List Stmt} {pos : Pos} {kvs : List (Int × Value)} {d : Addr} {od : Obj} {g₀ : Heap} (hh : A.handled = none) (hs : ∀ x, foldedSetIterable iter env x = pure x) (hdo : od.IsDictOf (intKind prog w) kvs) (lo : (d == sysModules) = false) (Gr : Heap → Prop) (hGr : ∀ b g, g₀.get? b = none → Gr g → g.get? b = none) (hg₀ : Gr g₀) (G : Nat → Loc → Led → Prop)
    (h : wpAny (model prog w) A (eval iter env) (fun xv s₁ => NxStop <| ∃ m nw, xv = .ref d ∧ Fr g₀ L s₁.heap m ∧ News g₀ L s₁.heap nw ∧ G 0 m nw ∧ (∀ i m nw, G i m nw → (d, od) ∈ nw) ∧ ∀ hp,
      (∀ I i k v key g m nw oI h tk, kvs[i]? = some (k, v) → (intKind prog w).is k key = true → Gr g → G i m nw → Fr g L h m → News g L h ((I, oI) :: nw) → (∀ p ∈ nw, p.1 ≠ I) →
        wpAny (model prog w) A (assign (.Name x px) env key) (fun _ s₂ => wpAny (model prog w) A (execs body env) (FPostS L { s₁ with heap := hp } I oI Gr (G (i + 1)) Q) (fun _ _ => False) s₂) (fun _ _ => False) { s₁ with heap := h, toks := tk }) ∧
      (∀ g m nw h tk, Gr g → G kvs.length m nw → Fr g L h m → News g L h nw → Q .next { s₁ with heap := h, toks := tk })) (fun _ _ => False) s) :
    wpAny (model prog w) A (exec (.For (.Name x px) iter body [] pos) env) Q (fun _ _ => False) s := by
  refine wpAny_For (wpAny_mono h (fun xv s₁ h₁ => ?_) fun _ _ x => x.elim) hs
  obtain ⟨m, nw, rfl, F, N, hG, hS, rest⟩ := h₁
  obtain ⟨es, ep, r1, r2, r3, r4, r5⟩ := hdo
  have at_ : ∀ {g h : Heap} {nw : Led}, News g L h nw → (d, od) ∈ nw → h.DictAt (intKind prog w) d kvs ep := fun N hm => ⟨od, es, (N _ hm).1, r1, r2, r3, r4, r5⟩
  have hl := at_ N (hS _ _ _ hG)
  have hlt : d < s₁.heap.objs.size := hl.lt_size
  refine wpAny_pyIter_dict lo hl ?_
  have up : ∀ b o, s₁.heap.get? b = some o → (s₁.heap.push { cls := .type "dict_keyiterator", data := .fields #[.ref d, .int 0 0, .int kvs.length 0, .int ep 0] }).get? b = some o := fun b o e => Heap.get?_push_of_some _ e
  obtain ⟨turn, fin⟩ := rest (s₁.heap.push { cls := .type "dict_keyiterator", data := .fields #[.ref d, .int 0 0, .int kvs.length 0, .int ep 0] })
  refine for_genS (S := fun nw => (d, od) ∈ nw) (Walks.dictKeys (knd := intKind prog w) hh s₁.heap.objs.size d (Nat.ne_of_lt hlt) kvs ep) Gr (fun i h st => by obtain ⟨o, e, _⟩ := st.1; exact ⟨o, e⟩) (fun i g h h' o nw _ st e e' N S => ⟨by obtain ⟨o', q, r⟩ := st.1; rw [e] at q; cases q; exact ⟨o, e', r⟩, at_ N S⟩) (fun i v s' Q' E' _ hq => wpAny_pure hq) G hS ⟨⟨_, Heap.get?_push_size _ rfl, rfl, rfl⟩, hl.push _⟩ hg₀ (F.keeps up) (N.grown up) (Nat.ne_of_lt F.ns.lt) (fun g hg => hGr _ g (next_is_new F) hg) (fun p hp => Nat.ne_of_lt (Heap.lt_size (N p hp).1)) hG ?_ ?_
  · rintro i v g m nw oI h tk hi ⟨k, x, hk, hv⟩ hg hG F N off
    exact turn _ i k x v g m nw oI h tk hk hv hg hG F N off
  · exact fin
end
section
variable {prog : Program} {w : World} {K : Type} [DecidableEq K] {knd : KeyKind prog w K} {A : Around} {E : Value → Shared → Prop} {s : Shared} {h₀ : Heap} {L d : Addr} {m : Str → Option Value} {news : List (Addr × Obj)} {ug : Obj → List (Addr × Obj)} {kvs : List (K × Value)} {o : Obj} {k : K} {key : Value}
theorem kda_del {Q : Unit → Shared → Prop} (F : Fr h₀ L s.heap m) (N : News h₀ L s.heap news) (U : UpdF d o news ug) (hd : o.IsDictOf knd kvs) (hkey : knd.is k key = true) (hl : (valueAt kvs k).isSome = true) (hsz : kvs.length ≤ sizeLine)
    (h : ∀ h' o', Fr h₀ L h' m → News h₀ L h' (ug o') → o'.IsDictOf knd (without kvs k) → Q () { s with heap := h', toks := s.toks + 1 }) : wpAny (model prog w) A (delItem (.ref d) key) Q E s := by
  obtain ⟨pre, post, rfl, hg, a, b⟩ := U.split
  have hm := N (d, o) (List.mem_append_right _ (.head _))
  have hD : s.heap.DictOf knd d kvs := Heap.dictOf_iff.mpr ⟨o, hm.1, hd⟩
  unfold delItem
  try with_reducible refine wpAny_holding ?_
  refine wpAny_bind (wpAny_sequenceKey hD.typeIs (by decide) ?_)
  refine wpAny_bind (wpAny_callSpecial?_slot (name := Str.ofString "__delitem__") hD.typeIs PySem.F.slot_dict_delitem
    (call_meetsIn PySem.F.slot_dict_delitem hD.typeIs PySem.F.entry_dict_delitem (PySem.F.args_dict_delitem_2 _ _) (meets_dict_delitem_pairs knd d hkey) ⟨kvs, hD, hsz, hl, fun h' hmm hs => ?_⟩))
  obtain ⟨o', ho', hd'⟩ := Heap.dictOf_iff.mp hmm
  exact wpAny_pure (h h' o' (F.change hs hm.2.1 hm.2.2) (hg o' ▸ N.setIn a b hs ho') hd')
end
end Mine
end
section
open PySem PySem.W PyProof.Rows PySem.Calls PyProof.Rows.LCg
set_option maxHeartbeats 1000000
namespace Mine
open Builtin.ObjectAttr
theorem li_slot_ga : Slot "list_iterator" "__getattribute__" "object.__getattribute__" :=
  .of (owner := "object") (n := "__getattribute__") (by rw [typeLookup_type, builtinLookup_eq_fast]; kernel_rfl) (by decide +kernel) (by decide +kernel) (by decide +kernel)
    (by first | exact .inl (by decide +kernel) | exact .inr (by decide +kernel)) (by rw [isSubtype_type]; kernel_rfl)
theorem li_entry_ga : entryFor table "object.__getattribute__" = some Builtin.«object.__getattribute__» := F.entry_object_getattribute
theorem li_args_ga (a b : Value) : argsOk "object.__getattribute__" ⟨[a, b], []⟩ := by unfold argsOk; kernel_rfl
theorem li_look_next : typeLookup (.type "list_iterator") "__next__" = pure (some (.builtin "list_iterator.__next__")) := by rw [typeLookup_type, builtinLookup_eq_fast]; kernel_rfl
theorem type_next : typeOf (.builtin "list_iterator.__next__") = pure (.type "wrapper_descriptor") := by show builtinType _ = _; rw [builtinType_eq_fast]; kernel_rfl
theorem spec_of {n : Str} {r : Option Value} (h : typeLookup (.type "wrapper_descriptor") n = pure r) : specialOf (.builtin "list_iterator.__next__") n = pure r := by
  unfold specialOf; rw [type_next]; exact h
theorem nx_get : specialOf (.builtin "list_iterator.__next__") "__get__" = pure (some (.builtin "wrapper_descriptor.__get__")) := spec_of (by rw [typeLookup_type, builtinLookup_eq_fast]; kernel_rfl)
theorem nx_set : specialOf (.builtin "list_iterator.__next__") "__set__" = pure none := spec_of (by rw [typeLookup_type, builtinLookup_eq_fast]; kernel_rfl)
theorem nx_del : specialOf (.builtin "list_iterator.__next__") "__delete__" = pure none := spec_of (by rw [typeLookup_type, builtinLookup_eq_fast]; kernel_rfl)
theorem nx_takes : takesStores (.builtin "list_iterator.__next__") = pure false := by unfold takesStores; rw [nx_set, nx_del]; rfl
theorem nx_data : dataDescriptor? (some (.builtin "list_iterator.__next__")) (some (.builtin "wrapper_descriptor.__get__")) = pure none := by unfold dataDescriptor?; dsimp only; rw [nx_takes]; rfl
section
variable {prog : Program} {w : World} {A : Around} {s : Shared}
theorem find_next {I l : Addr} {i : Nat} {E : Value → Shared → Prop} {Q : Builtin.ObjectAttr.Found → Shared → Prop} (hI : s.heap.get? I = some (iterO l i)) (h : Q (.bind (.builtin "wrapper_descriptor.__get__") (.builtin "list_iterator.__next__")) s) : wpAny (model prog w) A (find (.ref I) (.type "list_iterator") (Str.ofString "__next__")) Q E s := by
  unfold find
  refine wpAny_bind (wpAny_of_eq li_look_next ?_)
  refine wpAny_bind (wpAny_of_eq nx_get ?_)
  refine wpAny_bind (wpAny_of_eq nx_data ?_)
  dsimp only
  unfold ownThenClass
  obtain ⟨hp, g, d, tk, os⟩ := s
  unfold inOwnDict Builtin.ObjectAttr.ownDict
  repeat (any_goals (first | assumption | wp_step))
theorem wd_slot_get : Slot "wrapper_descriptor" "__get__" "wrapper_descriptor.__get__" :=
  .of (owner := "wrapper_descriptor") (n := "__get__") (by rw [typeLookup_type, builtinLookup_eq_fast]; kernel_rfl) (by decide +kernel) (by decide +kernel) (by decide +kernel)
    (by first | exact .inl (by decide +kernel) | exact .inr (by decide +kernel)) (by rw [isSubtype_type]; kernel_rfl)
theorem wd_entry_get : entryFor table "wrapper_descriptor.__get__" = some Builtin.«wrapper_descriptor.__get__» := by first | exact entryFor_of_fast (by kernel_rfl) | exact entryFor_of_tree (by kernel_rfl)
theorem wd_args_get (a b c : Value) : argsOk "wrapper_descriptor.__get__" ⟨[a, b, c], []⟩ := by unfold argsOk; kernel_rfl
theorem li_sub : isSubtype (.type "list_iterator") (.type "list_iterator") = pure true := by rw [isSubtype_type]; kernel_rfl
theorem bind_next {I l : Addr} {i : Nat} {E : Value → Shared → Prop} {Q : Fin → Shared → Prop} (hI : s.heap.get? I = some (iterO l i)) (h : Q (.done (.ret (.ref s.heap.objs.size))) { s with heap := s.heap.push (wrapO I) }) :
    wpAny (model prog w) A (bindTo (.builtin "wrapper_descriptor.__get__") (.builtin "list_iterator.__next__") (.ref I) (.type "list_iterator")) Q E s := by
  have hT : s.TypeIs (.ref I) "list_iterator" := ⟨_, hI, rfl⟩
  unfold bindTo
  dsimp only
  refine wpAny_bind (wpAny_holding (wpAny_call_entry wd_slot_get type_next wd_entry_get ?_ (wd_args_get _ _ _)))
  unfold Builtin.«wrapper_descriptor.__get__»
  refine wpAny_bind (wpAny_of_eq (a := (.builtin "list_iterator.__next__", some (.ref I), some (.type "list_iterator"))) (by first | rfl | kernel_rfl) ?_)
  dsimp only
  refine wpAny_bind (wpAny_bind (wpAny_of_eq (a := (Str.ofString "__next__", .type "list_iterator")) (by first | rfl | kernel_rfl) ?_))
  refine wpAny_bind (wpAny_isInstance (T := "list_iterator") (b := true) hT li_sub ?_)
  refine wpAny_pure ?_
  exact wpAny_bind (wpAny_newObj_type (wpAny_pure ⟨_, rfl, wpAny_pure h⟩))
theorem attr_next {I l : Addr} {i : Nat} {Q E : Value → Shared → Prop} (hI : s.heap.get? I = some (iterO l i)) (h : Q (.ref s.heap.objs.size) { s with heap := s.heap.push (wrapO I), toks := s.toks + 1 }) : wpAny (model prog w) A (getAttr (.ref I) (Str.ofString "__next__") true) Q E s := by
  obtain ⟨hp, g, d, tk, os⟩ := s
  have hT : ∀ tk', (⟨hp, g, d, tk', os⟩ : Shared).TypeIs (.ref I) "list_iterator" := fun _ => ⟨_, hI, rfl⟩
  have f3 := li_slot_ga.lookup
  have f4 := li_slot_ga.bind (.ref I)
  unfold getAttr getAttrBy
  repeat (any_goals (first | assumption | exact hT _ | wp_step))
  refine codeAny_call_builtin li_slot_ga.plain li_entry_ga (li_slot_ga.check _ _ _ _ _ _ _ _ (hT _) (li_args_ga _ _) ?_)
  unfold Builtin.«object.__getattribute__»
  refine wpAny_bind (wpAny_of_eq (a := (.ref I, [.str (Str.ofString "__next__") tk])) (by first | rfl | kernel_rfl) ?_)
  dsimp only
  refine wpAny_bind (wpAny_of_eq (a := Str.ofString "__next__") (by first | rfl | kernel_rfl) ?_)
  refine wpAny_bind (wpAny_typeOf (hT _) ?_)
  refine wpAny_bind (find_next hI ?_)
  dsimp only
  refine bind_next hI ?_
  dsimp only
  exact wpAny_pure h
end
section
variable {prog : Program} {w : World} {A : Around} {E : Value → Shared → Prop} {s : Shared} {h₀ : Heap} {L : Addr} {m : Loc} {news : Led}
theorem iter_list {l : Addr} {its : Array Value} {c : Nat} {Q : Value → Shared → Prop} (F : Fr h₀ L s.heap m) (N : News h₀ L s.heap news) (hm : (l, W.listOf its c) ∈ news)
    (h : ∀ I h', Fr h₀ L h' m → News h₀ L h' ((I, iterO l 0) :: news) → (∀ p ∈ news, @LT.lt Nat _ p.1 I) → Q (.ref I) { s with heap := h' }) : wpAny (model prog w) A (call (.builtin "iter") [.ref l]) Q E s := by
  refine call_function_entry (by decide +kernel) (by decide +kernel) kdk_entry_iter (kdk_args_iter _) ?_
  unfold Builtin.«iter»
  refine wpAny_bind (m := someArgs "iter" 1 2 _) (wpAny_of_eq (a := [Value.ref l]) (by first | rfl | kernel_rfl) ?_)
  show wpAny _ _ (pyIter (.ref l) >>= _) _ _ _
  refine wpAny_bind (wpAny_pyIter_list (PySem.IsL.isList (n := c) (N _ hm).1) ?_)
  exact wpAny_pure ⟨_, rfl, h _ _ (F.push _) (News.push F N _ rfl) (fun q hq => Heap.lt_size (N q hq).1)⟩
theorem attr_nextK {I l : Addr} {i : Nat} {Q : Value → Shared → Prop} (F : Fr h₀ L s.heap m) (N : News h₀ L s.heap news) (hm : (I, iterO l i) ∈ news)
    (h : ∀ B h', Fr h₀ L h' m → News h₀ L h' ((B, wrapO I) :: news) → (∀ p ∈ news, @LT.lt Nat _ p.1 B) → Q (.ref B) { s with heap := h', toks := s.toks + 1 }) : wpAny (model prog w) A (getAttr (.ref I) (Str.ofString "__next__") true) Q E s :=
  attr_next (N _ hm).1 (h _ _ (F.push _) (News.push F N _ rfl) (fun q hq => Heap.lt_size (N q hq).1))
end
end Mine
end
section
open PySem PySem.W PyProof.Rows PySem.Calls PyProof.Rows.LCg
set_option maxHeartbeats 4000000
namespace Mine
/-- the search for a cycle on plain data: the path from its end, with the next place in each one's followers -/
noncomputable def drain (sc : Nat → List Nat) : List (Nat × Nat) → Option (Nat × List (Nat × Nat))
  | [] => none
  | (p, i) :: r => match (sc p)[i]? with
    | some q => some (q, (p, i + 1) :: r)
    | none => drain sc r
noncomputable def fcGo (sc : Nat → List Nat) : Nat → Nat → List (Nat × Nat) → List Nat → Option (List Nat)
  | 0, _, _, _ => none
  | f + 1, v, stk, seen =>
    if v ∈ seen then (if v ∈ stk.map (·.1) then none else match drain sc stk with
      | none => some seen
      | some (u, s) => fcGo sc f u s seen)
    else if 100 < seen.length ∨ 100 < stk.length then none else match drain sc ((v, 0) :: stk) with
      | none => some (v :: seen)
      | some (u, s) => fcGo sc f u s (v :: seen)
noncomputable def fcAll (sc : Nat → List Nat) (f : Nat) : Nat → Option (List Nat)
  | 0 => some []
  | i + 1 => match fcAll sc f i with
    | none => none
    | some seen => if i ∈ seen then some seen else fcGo sc f i [] seen
theorem fcAll_le {sc : Nat → List Nat} {f : Nat} : ∀ {n i : Nat}, i ≤ n → (fcAll sc f n).isSome = true → (fcAll sc f i).isSome = true
  | 0, i, h, e => by obtain rfl : i = 0 := by omega
                     exact e
  | n + 1, i, h, e => by
    by_cases hi : i = n + 1
    · rw [hi]; exact e
    · refine fcAll_le (n := n) (by omega) ?_
      unfold fcAll at e
      cases q : fcAll sc f n with
      | none => rw [q] at e; cases e
      | some s => rfl
/-- one place of the path -/
structure Ent where
  nd : Nat
  ps : Nat
  ib : Addr
  bb : Addr
noncomputable def Ent.pt (e : Ent) : Nat × Nat := (e.nd, e.ps)
/-- the search's things on plain data -/
structure CyD (w : World) (a : Lay) (n : Nat) (Wl : Led) (st it se nd : Addr) (X : Addr → Prop) (es : List Ent) (sn : List Nat) (Wt : Led) (oN oS : Obj) (kvs : List (Int × Value)) (vs : List Value) (cnt : Nat) : Prop where
  hN1 : oN.IsDictOf (intKind Challenge.rw_ny0273_01.row.prog w) kvs
  hN2 : kvs.map (·.1) = es.reverse.map (fun e => (e.nd : Int))
  hS1 : oS.SetObjOf (intKind Challenge.rw_ny0273_01.row.prog w) (fun k => sn.any fun j => decide ((j : Int) = k)) cnt
  hS2 : cnt ≤ 101
  hS3 : cnt ≤ sn.length
  hV : IntsAre vs (es.reverse.map (fun e => (e.nd : Int)))
  hW : ∀ p ∈ Wl, p ∈ Wt
  hE : ∀ e ∈ es, e.nd < n ∧ e.nd ∈ sn ∧ (e.ib, iterO (a.sa e.nd) e.ps) ∈ Wt ∧ (e.bb, wrapO e.ib) ∈ Wt ∧ ∀ p ∈ Wl, p.1 ≠ e.ib
  hnd : (es.map (·.ib)).Nodup
  hof : ∀ p ∈ Wt, p.1 ≠ nd ∧ p.1 ≠ se ∧ p.1 ≠ it ∧ p.1 ≠ st ∧ X p.1
  hes : es.length ≤ 101
/-- the search's things in the ledger -/
inductive CyM (w : World) (a : Lay) (n : Nat) (Wl : Led) (st it se nd : Addr) (X : Addr → Prop) (es : List Ent) (sn : List Nat) (hd : Led) (m : Loc) (nw : Led) : Prop
  | out (Wt : Led) (oN oS : Obj) (kvs : List (Int × Value)) (vs : List Value) (c1 c2 : Nat) (cnt : Nat) (m1 : m (Str.ofString "n2i") = some (.ref a.d)) (m2 : m (Str.ofString "stack") = some (.ref st)) (m3 : m (Str.ofString "itstack") = some (.ref it)) (m4 : m (Str.ofString "seen") = some (.ref se)) (m5 : m (Str.ofString "node2stacki") = some (.ref nd))
    (e : nw = (nd, oN) :: (se, oS) :: (it, W.listOf (es.reverse.map fun e => Value.ref e.bb).toArray c1) :: (st, W.listOf vs.toArray c2) :: (hd ++ Wt)) (D : CyD w a n Wl st it se nd X es sn Wt oN oS kvs vs cnt) : CyM w a n Wl st it se nd X es sn hd m nw
theorem keys_none {kvs : List (Int × Value)} {k : Int} (h : k ∉ kvs.map (·.1)) : valueAt kvs k = none := by
  unfold valueAt
  rw [Option.map_eq_none_iff, List.find?_eq_none]
  intro p hp e
  exact h (List.mem_map.mpr ⟨p, hp, of_decide_eq_true e⟩)
theorem keys_some {kvs : List (Int × Value)} {k : Int} (h : k ∈ kvs.map (·.1)) : (valueAt kvs k).isSome = true := by
  unfold valueAt
  obtain ⟨p, hp, e⟩ := List.mem_map.mp h
  rw [Option.isSome_map, List.find?_isSome]
  exact ⟨p, hp, decide_eq_true e⟩
theorem stored_new {kvs : List (Int × Value)} {k : Int} {v : Value} (h : k ∉ kvs.map (·.1)) : stored kvs k v = kvs ++ [(k, v)] := by
  unfold stored
  rw [if_neg]
  rw [List.any_eq_true]
  rintro ⟨p, hp, e⟩
  exact h (List.mem_map.mpr ⟨p, hp, of_decide_eq_true e⟩)
theorem without_last {kvs : List (Int × Value)} {l : List Int} {k : Int} (h : kvs.map (·.1) = l ++ [k]) (hn : k ∉ l) : (without kvs k).map (·.1) = l := by
  rcases List.eq_nil_or_concat kvs with e | ⟨q, p, e⟩
  · rw [e] at h; simp at h
  · subst e
    rw [List.concat_eq_append, List.map_append, List.map_cons, List.map_nil] at h
    obtain ⟨h1, h2⟩ := List.append_inj' h rfl
    injection h2 with h2
    unfold without
    rw [List.concat_eq_append, List.filter_append, List.map_append]
    have e1 : q.filter (fun kv => decide (kv.1 ≠ k)) = q := List.filter_eq_self.mpr fun x hx => by
      rw [decide_eq_true_eq]; intro e; exact hn (by rw [← h1, ← e]; exact List.mem_map_of_mem hx)
    rw [e1, h1]
    simp [h2]
theorem ints_init : ∀ {vs : List Value} {y : Value} {ns : List Int} {k : Int}, IntsAre (vs ++ [y]) (ns ++ [k]) → IntsAre vs ns
  | [], _, [], _, _ => .nil
  | [], _, [_], _, h => by cases h with | cons _ _ h => cases h
  | [], _, _ :: _ :: _, _, h => by cases h with | cons _ _ h => cases h
  | [_], _, [], _, h => by cases h with | cons _ _ h => cases h
  | _ :: _ :: _, _, [], _, h => by cases h with | cons _ _ h => cases h
  | _ :: vs, _, _ :: ns, _, .cons a b h => .cons a b (ints_init h)
section
variable {w : World} {a : Lay} {n : Nat} {Wl Wt : Led} {st it se nd : Addr} {X : Addr → Prop} {es : List Ent} {sn : List Nat} {oN oS : Obj} {kvs : List (Int × Value)} {vs : List Value} {cnt : Nat}
theorem CyD.weak {Y : Addr → Prop} (D : CyD w a n Wl st it se nd X es sn Wt oN oS kvs vs cnt) (h : ∀ p ∈ Wt, Y p.1) : CyD w a n Wl st it se nd Y es sn Wt oN oS kvs vs cnt :=
  ⟨D.hN1, D.hN2, D.hS1, D.hS2, D.hS3, D.hV, D.hW, D.hE, D.hnd, fun p hp => ⟨(D.hof p hp).1, (D.hof p hp).2.1, (D.hof p hp).2.2.1, (D.hof p hp).2.2.2.1, h p hp⟩, D.hes⟩
theorem CyD.nodes (D : CyD w a n Wl st it se nd X es sn Wt oN oS kvs vs cnt) {v : Nat} (h : v ∉ es.map (·.nd)) : (v : Int) ∉ kvs.map (·.1) := by
  rw [D.hN2]
  intro hm
  obtain ⟨e, he, q⟩ := List.mem_map.mp hm
  exact h (List.mem_map.mpr ⟨e, List.mem_reverse.mp he, by omega⟩)
theorem CyD.apart {e : Ent} (D : CyD w a n Wl st it se nd X (e :: es) sn Wt oN oS kvs vs cnt) : e.nd ∉ es.map (·.nd) := by
  obtain ⟨_, _, _, _, _, _, h⟩ := D.hN1
  rw [D.hN2, List.reverse_cons, List.map_append, List.nodup_append] at h
  intro hm
  obtain ⟨e', h', q⟩ := List.mem_map.mp hm
  refine h.2.2 (e'.nd : Int) (List.mem_map.mpr ⟨e', List.mem_reverse.mpr h', rfl⟩) (e.nd : Int) (by simp) (by omega)
theorem CyD.push (D : CyD w a n Wl st it se nd X es sn Wt oN oS kvs vs cnt) {v : Nat} {t : Tok} {x : Value} {oN' oS' : Obj} {I2 B2 : Addr} (hvn : v < n) (hv : v ∉ sn) (h1 : sn.length ≤ 100) (h2 : es.length ≤ 100)
    (lt : ∀ p ∈ Wt, @LT.lt Nat _ p.1 I2) (l1 : @LT.lt Nat _ nd I2) (l2 : @LT.lt Nat _ se I2) (l3 : @LT.lt Nat _ it I2) (l4 : @LT.lt Nat _ st I2) (lB : @LT.lt Nat _ I2 B2) (x1 : X I2) (x2 : X B2)
    (hN : oN'.IsDictOf (intKind Challenge.rw_ny0273_01.row.prog w) (stored kvs v x)) (hS : oS'.SetObjOf (intKind Challenge.rw_ny0273_01.row.prog w) (fun k' => (sn.any fun j => decide ((j : Int) = k')) || decide (k' = (v : Int))) (if (sn.any fun j => decide ((j : Int) = (v : Int))) = true then cnt else cnt + 1)) :
    CyD w a n Wl st it se nd X (⟨v, 0, I2, B2⟩ :: es) (v :: sn) ((B2, wrapO I2) :: (I2, iterO (a.sa v) 0) :: Wt) oN' oS' (stored kvs v x) (vs ++ [.int v t]) (if (sn.any fun j => decide ((j : Int) = (v : Int))) = true then cnt else cnt + 1) := by
  have hes : v ∉ es.map (·.nd) := fun hm => by
    obtain ⟨e, he, q⟩ := List.mem_map.mp hm
    exact hv (q ▸ (D.hE e he).2.1)
  have c1 := D.hS2
  have c2 := D.hS3
  refine ⟨hN, ?_, ?_, ?_, ?_, ?_, fun p hp => .tail _ (.tail _ (D.hW p hp)), ?_, ?_, ?_, ?_⟩
  · rw [stored_new (D.nodes hes), List.map_append, D.hN2]; simp
  · have e : (fun k => (v :: sn).any fun j => decide ((j : Int) = k)) = (fun k' => (sn.any fun j => decide ((j : Int) = k')) || decide (k' = (v : Int))) := by
      funext k
      rw [List.any_cons, Bool.or_comm]
      congr 1
      exact decide_eq_decide.mpr eq_comm
    rw [e]; exact hS
  · split <;> omega
  · rw [List.length_cons]; split <;> omega
  · rw [List.reverse_cons, List.map_append]; exact ints_snoc D.hV
  · intro e he
    rcases List.mem_cons.mp he with q | q
    · rw [q]; exact ⟨hvn, .head _, .tail _ (.head _), .head _, fun p hp => Nat.ne_of_lt (lt p (D.hW p hp))⟩
    · obtain ⟨a1, a2, a3, a4, a5⟩ := D.hE e q
      exact ⟨a1, .tail _ a2, .tail _ (.tail _ a3), .tail _ (.tail _ a4), a5⟩
  · rw [List.map_cons, List.nodup_cons]
    refine ⟨fun hm => ?_, D.hnd⟩
    obtain ⟨e, he, q⟩ := List.mem_map.mp hm
    have := lt _ (D.hE e he).2.2.1
    exact Nat.ne_of_lt this q
  · intro p hp
    rcases List.mem_cons.mp hp with q | hp
    · rw [q]; dsimp only; exact ⟨neN (by omega), neN (by omega), neN (by omega), neN (by omega), x2⟩
    · rcases List.mem_cons.mp hp with q | hp
      · rw [q]; dsimp only; exact ⟨neN (by omega), neN (by omega), neN (by omega), neN (by omega), x1⟩
      · exact D.hof p hp
  · rw [List.length_cons]; omega
theorem CyD.step {g h : Heap} {L : Addr} (N : News g L h Wt) {e : Ent} (D : CyD w a n Wl st it se nd X (e :: es) sn Wt oN oS kvs vs cnt) :
    CyD w a n Wl st it se nd X ({ e with ps := e.ps + 1 } :: es) sn (repl e.ib (iterO (a.sa e.nd) (e.ps + 1)) Wt) oN oS kvs vs cnt := by
  have he := D.hE e (.head _)
  have hnd := D.hnd
  rw [List.map_cons, List.nodup_cons] at hnd
  have one : ∀ {x : Addr} {o o' : Obj}, (x, o) ∈ Wt → (x, o') ∈ Wt → o = o' := fun h1 h2 => Option.some.inj ((N _ h1).1.symm.trans (N _ h2).1)
  have nw : ∀ {b J : Addr}, (b, wrapO J) ∈ Wt → b ≠ e.ib := fun {b J} hm q => by
    rw [q] at hm
    have z := congrArg Obj.cls (one hm he.2.2.1)
    simp at z
  refine ⟨D.hN1, by simpa using D.hN2, D.hS1, D.hS2, D.hS3, by simpa using D.hV, fun p hp => repl_keep (D.hW p hp) (he.2.2.2.2 p hp), ?_, by simpa using D.hnd, repl_off (P := fun x => x ≠ nd ∧ x ≠ se ∧ x ≠ it ∧ x ≠ st ∧ X x) he.2.2.1 D.hof, by simpa using D.hes⟩
  intro e' h'
  rcases List.mem_cons.mp h' with q | q
  · rw [q]; exact ⟨he.1, he.2.1, repl_mem he.2.2.1, repl_keep he.2.2.2.1 (nw he.2.2.2.1), he.2.2.2.2⟩
  · obtain ⟨a1, a2, a3, a4, a5⟩ := D.hE e' (.tail _ q)
    exact ⟨a1, a2, repl_keep a3 (fun z => hnd.1 (List.mem_map.mpr ⟨e', q, z⟩)), repl_keep a4 (nw a4), a5⟩
theorem CyD.pop {g h : Heap} {L : Addr} (N : News g L h Wt) {e : Ent} {oN' : Obj} {vs' : List Value} {y : Value} (D : CyD w a n Wl st it se nd X (e :: es) sn Wt oN oS kvs (vs' ++ [y]) cnt) (hn : e.nd ∉ es.map (·.nd))
    (hN : oN'.IsDictOf (intKind Challenge.rw_ny0273_01.row.prog w) (without kvs e.nd)) :
    CyD w a n Wl st it se nd X es sn (pull e.ib Wt) oN' oS (without kvs e.nd) vs' cnt := by
  have he := D.hE e (.head _)
  have hnd := D.hnd
  rw [List.map_cons, List.nodup_cons] at hnd
  have one : ∀ {x : Addr} {o o' : Obj}, (x, o) ∈ Wt → (x, o') ∈ Wt → o = o' := fun h1 h2 => Option.some.inj ((N _ h1).1.symm.trans (N _ h2).1)
  have nw : ∀ {b J : Addr}, (b, wrapO J) ∈ Wt → b ≠ e.ib := fun {b J} hm q => by
    rw [q] at hm
    have z := congrArg Obj.cls (one hm he.2.2.1)
    simp at z
  have hes := D.hes
  rw [List.length_cons] at hes
  refine ⟨hN, ?_, D.hS1, D.hS2, D.hS3, ?_, fun p hp => mem_pull (D.hW p hp) (he.2.2.2.2 p hp), ?_, hnd.2, fun p hp => D.hof p (pull_mem hp).1, by omega⟩
  · refine without_last (by rw [D.hN2]; simp) fun hm => ?_
    obtain ⟨e', h', q⟩ := List.mem_map.mp hm
    exact hn (List.mem_map.mpr ⟨e', List.mem_reverse.mp h', by omega⟩)
  · have hv := D.hV
    rw [List.reverse_cons, List.map_append] at hv
    exact ints_init hv
  · intro e' q
    obtain ⟨a1, a2, a3, a4, a5⟩ := D.hE e' (.tail _ q)
    exact ⟨a1, a2, mem_pull a3 (fun z => hnd.1 (List.mem_map.mpr ⟨e', q, z⟩)), mem_pull a4 (nw a4), a5⟩
end
noncomputable def JoinP (J : Shared → Prop) (f : Flow) (s : Shared) : Prop := f = .next ∧ J s
/-- a statement whose ways meet -/
theorem stmt_join {M : Model} {A : Around} {t : Sem Flow} {Q : Flow → Shared → Prop} {E : Value → Shared → Prop} {s : Shared} (J : Shared → Prop) (h1 : wpAny M A t (JoinP J) E s) (h2 : ∀ s', J s' → Q .next s') : wpAny M A t Q E s :=
  wpAny_mono h1 (fun _ _ x => by rw [x.1]; exact h2 _ x.2) fun _ _ x => x
/-- what is left of the search -/
noncomputable def nextOk (sc : Nat → List Nat) (f : Nat) (R : List Nat) (stk : List (Nat × Nat)) (sn : List Nat) : Prop := match drain sc stk with
  | none => sn = R
  | some (u, s) => fcGo sc f u s sn = some R
theorem go_step {sc : Nat → List Nat} {f v : Nat} {stk : List (Nat × Nat)} {sn R : List Nat} (h : fcGo sc f v stk sn = some R) : ∃ f', f = f' + 1 ∧ ((v ∈ sn ∧ ¬ v ∈ stk.map (·.1) ∧ nextOk sc f' R stk sn) ∨ (¬ v ∈ sn ∧ sn.length ≤ 100 ∧ stk.length ≤ 100 ∧ nextOk sc f' R ((v, 0) :: stk) (v :: sn))) := by
  cases f with
  | zero => cases h
  | succ f =>
    refine ⟨f, rfl, ?_⟩
    unfold fcGo at h
    by_cases hv : v ∈ sn
    · rw [if_pos hv] at h
      by_cases hs : v ∈ stk.map (·.1)
      · rw [if_pos hs] at h; cases h
      · rw [if_neg hs] at h
        refine .inl ⟨hv, hs, ?_⟩
        unfold nextOk
        cases q : drain sc stk with
        | none => rw [q] at h; exact Option.some.inj h
        | some x => rw [q] at h; exact h
    · rw [if_neg hv] at h
      by_cases hz : 100 < sn.length ∨ 100 < stk.length
      · rw [if_pos hz] at h; cases h
      · rw [if_neg hz] at h
        refine .inr ⟨hv, by omega, by omega, ?_⟩
        unfold nextOk
        cases q : drain sc ((v, 0) :: stk) with
        | none => rw [q] at h; exact Option.some.inj h
        | some x => rw [q] at h; exact h
theorem news_mid {g h : Heap} {L : Addr} {x a b c d : Addr × Obj} {r : Led} (N : News g L h (x :: a :: b :: c :: d :: r)) : News g L h (a :: b :: c :: d :: x :: r) := fun p hp => N p (by
  simp only [List.mem_cons] at hp ⊢
  rcases hp with e | e | e | e | e | e <;> simp [e])
theorem any_mem {seen : List Nat} {i : Nat} : (seen.any fun j => decide ((j : Int) = (i : Int))) = true ↔ i ∈ seen := by
  rw [List.any_eq_true]
  constructor
  · rintro ⟨j, h1, h2⟩
    have : j = i := by have := of_decide_eq_true h2; omega
    rwa [← this]
  · intro h; exact ⟨i, h, by simp⟩
theorem allLt_mem {d : Nat} : ∀ {l : Led}, AllLt d l → ∀ p ∈ l, @LT.lt Nat _ p.1 d
  | [], _, p, hp => nomatch hp
  | _ :: _, h, p, hp => by
    rcases List.mem_cons.mp hp with e | e
    · rw [e]; exact h.1
    · exact allLt_mem h.2 p e
section
variable {prog : Program} {w : World} {A : Around} {E : Value → Shared → Prop} {s : Shared}
theorem sub_last {value slice : PySem.Expr} {l : Addr} {vs : List Value} {v : Value} {u : Tok} {Q : Value → Shared → Prop} (hl : s.heap.IsList l (vs ++ [v]).toArray) (h : Q v s)
    (hs : subscripted slice false (.ref l) (.int (-1) u) = operate [.ref l, .int (-1) u] (getItem (.ref l) (.int (-1) u)) := by with_unfolding_all rfl) :
    wpAny (model prog w) A (subscriptTail value slice (.ref l) (.int (-1) u)) Q E s :=
  tail_any hl.typeIs slot_list_getitem.lookup (wpAny_getItem_list_neg hl (by decide) (by simp; omega) (by decide) (by rw [show ((-1 : Int) + ((vs ++ [v]).toArray.size : Int)).toNat = vs.length by simp only [List.size_toArray, List.length_append, List.length_cons, List.length_nil]; omega]; simp) h) hs
theorem callWith_wrap {pos : Pos} {u I : Addr} {env : Env} {Q : Value → Shared → Prop} (ho : s.heap.get? u = some (wrapO I)) (h : wpAny (model prog w) A (call (.ref u) []) Q E s) :
    wpAny (model prog w) A (callWith pos (.ref u) [] (backTo pos (starEach [] env)) []) Q E s := by
  unfold callWith
  refine wpAny_bind (wpAny_holding ?_)
  show wpAny _ _ (evalArgs (.ref u) true [] []) _ _ _
  refine wpAny_of_eq (a := ⟨[], []⟩) (by first | rfl | kernel_rfl) ?_
  refine wpAny_bind (wpAny_standAt ?_)
  refine wpAny_bind (m := keeperOf (.ref u)) ?_
  unfold keeperOf
  refine wpAny_bind (wpAny_load ho ?_)
  dsimp only [wrapO]
  refine KFB.if_so (by decide) ?_
  refine wpAny_pure ?_
  rw [if_pos (by decide)]
  exact wpAny_bind (wpAny_mono h (fun r s₂ hr => wpAny_bind (wpAny_holding (wpAny_point (wpAny_pure hr)))) fun _ _ x => x)
end
end Mine
end
section
open PySem PySem.W PyProof.Rows PySem.Calls PyProof.Rows.LCg
set_option maxHeartbeats 4000000
namespace Mine
theorem off_cons {x : Addr} {p : Addr × Obj} {r : Led} (h : p.1 ≠ x) (t : ∀ q ∈ r, q.1 ≠ x) : ∀ q ∈ p :: r, q.1 ≠ x := fun q hq => by
  rcases List.mem_cons.mp hq with e | e
  · rw [e]; exact h
  · exact t q e
theorem led_ne {g h : Heap} {L x y : Addr} {o o' : Obj} {nw : Led} (N : News g L h nw) (h1 : (x, o) ∈ nw) (h2 : (y, o') ∈ nw) (hd : o.data ≠ o'.data) : x ≠ y := fun e => by
  subst e
  exact hd (congrArg Obj.data (Option.some.inj ((N _ h1).1.symm.trans (N _ h2).1)))
theorem ints_at : ∀ {vs : List Value} {ns : List Int} {k : Nat} {x : Int}, IntsAre vs ns → ns[k]? = some x → ∃ t, vs[k]? = some (.int x t)
  | _, _, 0, _, .cons n t _, h => ⟨t, by injection h with h; rw [h]; rfl⟩
  | _, _, k + 1, _, .cons _ _ r, h => by
    obtain ⟨t, e⟩ := ints_at (k := k) r (by simpa using h)
    exact ⟨t, by simpa using e⟩
theorem ints_split : ∀ {vs : List Value} {ns : List Int} {k : Int}, IntsAre vs (ns ++ [k]) → ∃ vs' t, vs = vs' ++ [.int k t]
  | _, [], _, .cons n t h => by cases h; exact ⟨[], t, rfl⟩
  | _, _ :: _, _, .cons n t h => by
    obtain ⟨vs', u, e⟩ := ints_split h
    exact ⟨_ :: vs', u, by rw [e]; rfl⟩
local macro_rules | `(tactic| walk_at $s:str) => wk "S=exec For Name Name cons nil|exec While|exec While Constant cons nil|exec While Name cons cons|compareOp In int ref|exec If|call builtin:iter|call builtin:len|call builtin:list.append|setItem ref int|truthy ref|call builtin:list.pop|delItem ref int;HV=nx_hv;NM=eval Name;D=FPostS|WPostS;ST=subscriptTail" s
local macro_rules | `(tactic| walk_at "getAttr ref") => `(tactic| (k_here; (with_reducible show wpAny _ _ (getAttr (Value.ref _) (Str.ofString "__next__") true) _ _ _); refine nx_stop ?_))
local macro_rules | `(tactic| walk_at "callWith") => `(tactic| (k_here; (with_reducible show wpAny _ _ (callWith _ (Value.ref _) [] (backTo _ (starEach [] _)) []) _ _ _); refine nx_stop ?_))
section
variable {w : World} {mean : ExcName → Option Value} {mg mb : Str → Option Value} {base : Heap} {outer : List Env} {g : Heap} {gs : Array GenState} {dr : Drawn} {tk : Nat} {os : OsState} {Q E : Value → Shared → Prop}
theorem c_cycle {a : Lay} {n : Nat} {np : Nat → Int} {sc : Nat → List Nat} {Wl : Led} {g₀ : Heap} {k1 k2 k3 k4 t3 t4 : Tok} {po fi : Int} {rv : Value} {od : Obj} {fuel : Nat}
   (e₀ : hideAll g (a.S :: a.ds :: a.d :: Wl.map (·.1)) = g₀) (C : Cx w mean mg mb 0 base outer g₀) (Xb : (Mine.hd.heap_1 w.params).In base) (Tb : TopH mean mg mb base) (D0 : KtsDicts (outer.filterMap (·.frame)) g₀)
   (hS : g.get? a.S = some (instObj 171 a.ds)) (hds : g.get? a.ds = some (sDict w k1 k2 k3 k4 a.d rv po t3 fi t4)) (hd : g.get? a.d = some od) (hWl : ∀ p ∈ Wl, g.get? p.1 = some p.2)
   (hdo : od.IsDictOf (intKind Challenge.rw_ny0273_01.row.prog w) ((List.range n).map fun j : Nat => ((j : Int), Value.ref (a.ia j)))) (lo : (a.d == sysModules) = false) (ne : @LT.lt Nat _ a.ds a.S ∧ @LT.lt Nat _ a.S a.d) (hn : n ≤ 20) (M : TsM a n np (fun j => (sc j).map fun p : Nat => (p : Int)) Wl)
   (hsc : ∀ p, p < n → ∀ q ∈ sc p, q < n) (hrun : (fcAll sc fuel n).isSome = true)
   (ret : ∀ g₁ h' tk', KtsTurn (outer.filterMap (·.frame)) g₀ g₁ → Keeps g₁ h' → (∀ p ∈ (a.S, instObj 171 a.ds) :: (a.ds, sDict w k1 k2 k3 k4 a.d rv po t3 fi t4) :: (a.d, od) :: Wl, h'.get? p.1 = some p.2) → Q .none ⟨h', gs, dr, tk', os⟩) :
   wpAny (model Challenge.rw_ny0273_01.row.prog w) (AA 0 outer) (call (.ref 161) [.ref a.S]) Q E ⟨g, gs, dr, tk, os⟩ := by
  have X := C.X; revert X; k_fill; intro X
  refine wpAny_call ?_
  refine' enter [(Str.ofString "self", .ref a.S)] ((a.S, instObj 171 a.ds) :: (a.ds, sDict w k1 k2 k3 k4 a.d rv po t3 fi t4) :: (a.d, od) :: Wl) (by subst e₀; exact C) (all_cons hS (all_cons hds (all_cons hd hWl))) ?ho ?hcd ?hb ?hl ?c1 ?c2 ?c3 ?c4 ?_
  k_dflt ((case ho => k_is); (case hcd => k_is); (case hb => exact BindsTo.of_eq rfl); (case c4 => decide); (case hl => exact locs rfl); (case c1 => exact rfl); (case c2 => exact rfl); (case c3 => exact rfl); k_whole)
  intro g' L h1 tk1 eg F1 N1 B1 X1 T1
  obtain rfl : g' = g₀ := eg.trans e₀
  obtain ⟨ne1, ne2⟩ := ne
  (try dsimp only)
  (try k_fold)
  k_steps
  unfold NxStop
  rename Fr _ _ _ _ => F2
  rename News _ _ _ _ => N2
  rename Obj.IsDictOf _ _ _ => hdn
  rename_i st _ lst _ _ it _ lit _ se _ _ hset hz0 lse _ nd _ oN lon _ _ _ lnd _
  clear hz0
  let TT : Led → Led := fun Z => (a.S, instObj 171 a.ds) :: (a.ds, sDict w k1 k2 k3 k4 a.d rv po t3 fi t4) :: (a.d, od) :: Z
  have Gr0 : Gd w mean mg mb (AA 0 outer) base outer g' g' := ⟨KtsTurn.refl, B1, X1, T1, D0⟩
  refine for_keysS (L := L) (g₀ := g') rfl (fun _ => rfl) hdo lo (Gd w mean mg mb (AA 0 outer) base outer g') (fun b g e hg => hg.T.none_ b e) Gr0 (fun i m nw => ∃ seen, fcAll sc fuel i = some seen ∧ CyM w a n Wl st it se nd (fun _ => True) [] seen (TT []) m nw) ?_
  k_steps
  unfold NxStop
  rename Fr _ _ _ _ => F3
  rename News _ _ _ _ => N3
  refine ⟨_, _, rfl, F3, N3, ?g0, fun _ _ _ hG => ?gm, fun hp => ⟨?trn, ?fin⟩⟩
  case g0 =>
    have hset' := hset
    rw [show (fun _ : Int => false) = (fun k => ([] : List Nat).any fun j => decide ((j : Int) = k)) from rfl] at hset'
    refine ⟨[], rfl, Wl, oN, _, [], [], 0, 0, 0, rfl, rfl, rfl, rfl, rfl, rfl, ⟨hdn, rfl, hset', Nat.zero_le _, Nat.le_refl _, .nil, fun _ h => h, fun _ h => (nomatch h), .nil, fun p hp => ?_, Nat.zero_le _⟩⟩
    exact ⟨Nat.ne_of_lt (allLt_mem lnd.2.2.2.2.2.2 p hp), Nat.ne_of_lt (allLt_mem lse.2.2.2.2.2 p hp), Nat.ne_of_lt (allLt_mem lit.2.2.2.2 p hp), Nat.ne_of_lt (allLt_mem lst.2.2.2 p hp), trivial⟩
  case gm => obtain ⟨_, _, _, _, _, _, _, _, _, _, _, _, _, _, _, e, _⟩ := hG; rw [e]; exact .tail _ (.tail _ (.tail _ (.tail _ (.tail _ (.tail _ (.head _))))))
  case fin =>
    rintro g5 m nw h tk hg ⟨seen, hs, Wt, oN, oS, kvs, vs, c1, c2, cnt, m1, m2, m3, m4, m5, rfl, CD⟩ F8 N8
    k_steps
    dsimp only
    exact ret g5 _ _ hg.T F8.keep (all_cons (N8 _ (.tail _ (.tail _ (.tail _ (.tail _ (.head _)))))).1 (all_cons (N8 _ (.tail _ (.tail _ (.tail _ (.tail _ (.tail _ (.head _))))))).1 (all_cons (N8 _ (.tail _ (.tail _ (.tail _ (.tail _ (.tail _ (.tail _ (.head _)))))))).1 fun p e => (N8 p (.tail _ (.tail _ (.tail _ (.tail _ (.tail _ (.tail _ (.tail _ (CD.hW p e))))))))).1)))
  case trn =>
    rintro I i k v key g5 m nw oI h tk hk hkey hg ⟨seen, hs, Wt, oN, oS, kvs, vs, c1, c2, cnt, m1, m2, m3, m4, m5, rfl, CD⟩ F8 N8 off8
    refine hide_turn fun Q1 hQ1 => ?_
    obtain ⟨rfl, hin⟩ : k = (i : Int) ∧ i < n := by
      rw [List.getElem?_map, Option.map_eq_some_iff] at hk
      obtain ⟨j, h1, h2⟩ := hk
      have hlt : i < n := by
        have := (List.getElem?_eq_some_iff.mp h1).1
        simpa using this
      rw [List.getElem?_range hlt] at h1
      injection h1 with h1
      injection h2 with h2 h3
      subst h1
      exact ⟨h2.symm, hlt⟩
    obtain ⟨tkey, rfl⟩ := Value.isInt_shape hkey
    simp only [List.cons_append, show TT [] ++ Wt = TT Wt from rfl] at N8 off8
    have oI1 : @Ne Nat I nd := Ne.symm (off8 _ (.head _))
    have oI2 : @Ne Nat I se := Ne.symm (off8 _ (.tail _ (.head _)))
    have oI3 : @Ne Nat I it := Ne.symm (off8 _ (.tail _ (.tail _ (.head _))))
    have oI4 : @Ne Nat I st := Ne.symm (off8 _ (.tail _ (.tail _ (.tail _ (.head _)))))
    have of1 : ∀ p ∈ Wt, p.1 ≠ nd := fun p hp => (CD.hof p hp).1
    have of2 : ∀ p ∈ Wt, p.1 ≠ se := fun p hp => (CD.hof p hp).2.1
    have of3 : ∀ p ∈ Wt, p.1 ≠ it := fun p hp => (CD.hof p hp).2.2.1
    have of4 : ∀ p ∈ Wt, p.1 ≠ st := fun p hp => (CD.hof p hp).2.2.2.1
    have sb := CD.hS2
    have hS1 := CD.hS1
    obtain ⟨hT5, B5, X5, P5, D5⟩ := id hg
    have hs1 := fcAll_le (Nat.succ_le_of_lt hin) hrun
    k_steps
    unfold NxStop
    refine wpAny_If ?_
    k_steps
    unfold NxStop
    rename Fr _ _ _ _ => F9
    rename News _ _ _ _ => N9
    refine kse_in N9 (.tail oI2 (.tail (neN (by dsimp only; omega)) (.head (off_cons (neN (by dsimp only; omega)) (off_cons (neN (by dsimp only; omega)) (off_cons (neN (by dsimp only; omega)) (off_cons (neN (by dsimp only; omega)) (off_cons (neN (by dsimp only; omega)) of2)))))))) hS1 (by unfold scanBound; omega) (intKind_is _ _ _ _) rfl ?_
    dsimp only
    k_steps
    · rename (seen.any _) = true => hb
      rename Fr _ _ _ _ => F9
      rename News _ _ _ _ => N9
      have hb' := any_mem.mp hb
      refine post_of hQ1 ?_
      show FEndS _ _ _ _ _ _ _
      refine FEndS.intro hg F9 N9 _ (fun p hp => hp) off8 ⟨seen, ?_, Wt, oN, oS, kvs, vs, c1, c2, cnt, by walk_at "nx_hv", by walk_at "nx_hv", by walk_at "nx_hv", by walk_at "nx_hv", by walk_at "nx_hv", rfl, CD⟩
      unfold fcAll; rw [hs]; dsimp only; rw [if_pos hb']
    · unfold NxStop
      rename (seen.any _) = false => hb
      rename Fr _ _ _ _ => F9
      rename News _ _ _ _ => N9
      have hb' : ¬ i ∈ seen := fun h => by rw [any_mem.mpr h] at hb; cases hb
      obtain ⟨R, hR⟩ : ∃ R, fcGo sc fuel i [] seen = some R := by
        unfold fcAll at hs1; rw [hs] at hs1; dsimp only at hs1; rw [if_neg hb'] at hs1
        exact Option.isSome_iff_exists.mp hs1
      have hs2 : fcAll sc fuel (i + 1) = some R := by unfold fcAll; rw [hs]; dsimp only; rw [if_neg hb', hR]
      refine while_indS (L := L) (Gd w mean mg mb (AA 0 outer) base outer g') (fun f m nw => ∃ (v : Nat) (t : Tok) (es : List Ent) (sn : List Nat), m (Str.ofString "node") = some (.int (v : Int) t) ∧ v < n ∧ fcGo sc f v (es.map Ent.pt) sn = some R ∧ CyM w a n Wl st it se nd (fun x => x ≠ I) es sn ((I, oI) :: TT []) m nw) ?wt hg (n := fuel) ?wg F9 (news_mid N9)
      case wg => exact ⟨i, tkey, [], seen, by walk_at "nx_hv", hin, hR, Wt, oN, oS, kvs, vs, c1, c2, cnt, by walk_at "nx_hv", by walk_at "nx_hv", by walk_at "nx_hv", by walk_at "nx_hv", by walk_at "nx_hv", rfl, CD.weak fun p hp => off8 p (.tail _ (.tail _ (.tail _ (.tail _ (.tail _ (.tail _ (.tail _ hp))))))) ⟩
      case wt =>
        clear CD hS1 N9 F9 m1 m2 m3 m4 m5 hT5 B5 X5 P5 D5 of1 of2 of3 of4 sb
        rintro f g6 m nw h tk hg6 ⟨v, t, es, sn, m0, hvn, hgo, Wt, oN, oS, kvs, vs, c1, c2, cnt, m1, m2, m3, m4, m5, rfl, CD⟩ F8 N8
        refine hide_test fun Q2 hQ2 => ?_
        obtain ⟨hT5, B5, X5, P5, D5⟩ := id hg6
        simp only [List.cons_append, show TT [] ++ Wt = TT Wt from rfl] at N8
        have of1 : ∀ p ∈ Wt, p.1 ≠ nd := fun p hp => (CD.hof p hp).1
        have of2 : ∀ p ∈ Wt, p.1 ≠ se := fun p hp => (CD.hof p hp).2.1
        have of3 : ∀ p ∈ Wt, p.1 ≠ it := fun p hp => (CD.hof p hp).2.2.1
        have of4 : ∀ p ∈ Wt, p.1 ≠ st := fun p hp => (CD.hof p hp).2.2.2.1
        have sb := CD.hS2
        have hS1 := CD.hS1
        obtain ⟨f, rfl, hst⟩ := go_step hgo
        k_steps
        unfold NxStop
        refine stmt_join (fun s' => ∃ g7 h7 tk7 m7 nw7 es7 sn7, s' = (⟨h7, gs, dr, tk7, os⟩ : Shared) ∧ Gd w mean mg mb (AA 0 outer) base outer g' g7 ∧ Fr g7 L h7 m7 ∧ News g7 L h7 nw7 ∧ nextOk sc f R (es7.map Ent.pt) sn7 ∧ CyM w a n Wl st it se nd (fun x => x ≠ I) es7 sn7 ((I, oI) :: TT []) m7 nw7) ?j1 ?j2
        case j1 =>
          refine hide_post fun QJ hQJ => ?_
          refine wpAny_If ?_
          k_steps
          unfold NxStop
          rename Fr _ _ _ _ => F9
          rename News _ _ _ _ => N9
          refine kse_in N9 (.tail (neN (by dsimp only; omega)) (.head (off_cons (neN (by dsimp only; omega)) (off_cons (neN (by dsimp only; omega)) (off_cons oI2 (off_cons (neN (by dsimp only; omega)) (off_cons (neN (by dsimp only; omega)) (off_cons (neN (by dsimp only; omega)) of2)))))))) hS1 (by unfold scanBound; omega) (intKind_is _ _ _ _) rfl ?_
          dsimp only
          obtain ⟨⟨ti, ti', hmi⟩, hmd, us, cu, hms, hus⟩ := M.inf v hvn
          replace hmi := CD.hW _ hmi
          replace hmd := CD.hW _ hmd
          replace hms := CD.hW _ hms
          k_steps
          · unfold NxStop
            rename (sn.any _) = true => hb
            have hb' := any_mem.mp hb
            obtain ⟨_, hns, hnx⟩ := hst.resolve_right fun h => h.1 hb'
            refine wpAny_If ?_
            k_steps
            unfold NxStop
            rename Fr _ _ _ _ => F10
            rename News _ _ _ _ => N10
            refine kda_in N10 (.head _) CD.hN1 lon (intKind_is _ _ _ _) false ?_ ?_
            · rw [keys_none (CD.nodes fun hm => hns (by
                obtain ⟨e, he, q⟩ := List.mem_map.mp hm
                exact List.mem_map.mpr ⟨e.pt, List.mem_map_of_mem he, q⟩))]; rfl
            k_steps
            rename Fr _ _ _ _ => F10
            rename News _ _ _ _ => N10
            refine post_of hQJ ?_
            exact ⟨rfl, g6, _, _, m, _, es, sn, rfl, hg6, F10, N10, hnx, Wt, oN, oS, kvs, vs, c1, c2, cnt, m1, m2, m3, m4, m5, rfl, CD⟩
          · unfold NxStop
            rename (sn.any _) = false => hb
            have hb' : ¬ v ∈ sn := fun h => by rw [any_mem.mpr h] at hb; cases hb
            obtain ⟨_, hz1, hz2, hnx⟩ := hst.resolve_left fun h => hb' h.1
            rename Fr _ _ _ _ => F10
            rename News _ _ _ _ => N10
            refine kdt_tail N10 (.tail _ (.tail _ (.tail _ (.tail _ (.tail _ (.tail _ (.tail _ (.head _)))))))) hdo (kdt_getItem N10 (.tail _ (.tail _ (.tail _ (.tail _ (.tail _ (.tail _ (.tail _ (.head _)))))))) hdo (intKind_is _ _ _ _) (value_some hvn) ?_)
            k_steps
            unfold NxStop
            rename Fr _ _ _ _ => F11
            rename News _ _ _ _ => N11
            refine iter_list F11 N11 (.tail _ (.tail _ (.tail _ (.tail _ (.tail _ (.tail _ (.tail _ (.tail _ hms)))))))) fun I2 h12 F12 N12 l12 => ?_
            k_steps
            unfold NxStop
            refine attr_nextK F12 N12 (.head _) fun B2 h13 F13 N13 l13 => ?_
            k_steps
            unfold NxStop
            have q1 : @LT.lt Nat _ nd I2 := l12 _ (.head _)
            have q2 : @LT.lt Nat _ se I2 := l12 _ (.tail _ (.head _))
            have q3 : @LT.lt Nat _ it I2 := l12 _ (.tail _ (.tail _ (.head _)))
            have q4 : @LT.lt Nat _ st I2 := l12 _ (.tail _ (.tail _ (.tail _ (.head _))))
            have q5 : @LT.lt Nat _ I2 B2 := l13 _ (.head _)
            have q6 : ∀ p ∈ Wt, @LT.lt Nat _ p.1 I2 := fun p hp => l12 p (.tail _ (.tail _ (.tail _ (.tail _ (.tail _ (.tail _ (.tail _ (.tail _ hp))))))))
            have q7 : @LT.lt Nat _ I I2 := l12 _ (.tail _ (.tail _ (.tail _ (.tail _ (.head _)))))
            have hz2' : es.length ≤ 100 := by simpa using hz2
            rename Fr _ _ _ _ => F14
            rename News _ _ _ _ => N14
            refine append_K F14 N14 (.tail (neN (by dsimp only; omega)) (.tail (neN (by dsimp only; omega)) (.tail (neN (by dsimp only; omega)) (.tail (neN (by dsimp only; omega)) (.head (off_cons (neN (by dsimp only; omega)) (off_cons oI3 (off_cons (neN (by dsimp only; omega)) (off_cons (neN (by dsimp only; omega)) (off_cons (neN (by dsimp only; omega)) of3)))))))))) (fun h15 F15 N15 => ?_) (by simp [sizeLine_eq]; omega)
            k_steps
            unfold NxStop
            rename Fr _ _ _ _ => F16
            rename News _ _ _ _ => N16
            have hvl : vs.length = es.length := by rw [ints_len CD.hV]; simp
            refine PyProof.Rows.len_list (PySem.IsL.isList (n := c2) (N16 _ (.tail _ (.tail _ (.tail _ (.tail _ (.tail _ (.head _))))))).1) (by simp; omega) ?_
            k_steps
            unfold NxStop
            rename Fr _ _ _ _ => F16
            rename News _ _ _ _ => N16
            have hkl : kvs.length = es.length := by have := congrArg List.length CD.hN2; simpa using this
            refine kda_set F16 N16 (.tail (neN (by dsimp only; omega)) (.tail (neN (by dsimp only; omega)) (.head (off_cons (neN (by dsimp only; omega)) (off_cons (neN (by dsimp only; omega)) (off_cons (neN (by dsimp only; omega)) (off_cons oI1 (off_cons (neN (by dsimp only; omega)) (off_cons (neN (by dsimp only; omega)) (off_cons (neN (by dsimp only; omega)) of1)))))))))) CD.hN1 (intKind_is _ _ _ _) (by rw [sizeLine_eq]; omega) fun h17 oN' F17 N17 hN' => ?_
            k_steps
            unfold NxStop
            rename Fr _ _ _ _ => F18
            rename News _ _ _ _ => N18
            refine append_K F18 N18 (.tail (neN (by dsimp only; omega)) (.tail (neN (by dsimp only; omega)) (.tail (neN (by dsimp only; omega)) (.tail (neN (by dsimp only; omega)) (.tail (neN (by dsimp only; omega)) (.head (off_cons oI4 (off_cons (neN (by dsimp only; omega)) (off_cons (neN (by dsimp only; omega)) (off_cons (neN (by dsimp only; omega)) of4)))))))))) (fun h19 F19 N19 => ?_) (by simp [sizeLine_eq]; omega)
            k_steps
            rename Obj.SetObjOf _ _ _ _ => hS'
            have CD' := CD.push (t := t) hvn hb' hz1 hz2' q6 q1 q2 q3 q4 q5 (Nat.ne_of_gt q7) (Nat.ne_of_gt (Nat.lt_trans q7 q5)) hN' hS'
            rw [show (es.reverse.map fun e => Value.ref e.bb).toArray.push (.ref B2) = (((⟨v, 0, I2, B2⟩ : Ent) :: es).reverse.map fun e => Value.ref e.bb).toArray by simp, show vs.toArray.push (Value.int (v : Int) t) = (vs ++ [Value.int (v : Int) t]).toArray by simp] at N19
            refine post_of hQJ ?_
            refine ⟨rfl, g6, _, _, m, _, ⟨v, 0, I2, B2⟩ :: es, v :: sn, rfl, hg6, F19, pick N19 [2, 3, 4, 5, 6, 7, 8, 9, 0, 1] 10, hnx, _, oN', _, _, vs ++ [.int v t], c1 + 1, c2 + 1, _, m1, m2, m3, m4, m5, rfl, CD'⟩
        case j2 =>
          clear CD hS1 F8 N8 m0 m1 m2 m3 m4 m5 hT5 B5 X5 P5 D5 of1 of2 of3 of4 sb
          rintro s' ⟨g7, h7, tk7, m7, nw7, es7, sn7, rfl, hg7, F10, N10, hnx7, CM⟩
          k_steps
          unfold NxStop
          refine while_indS (L := L) (Gd w mean mg mb (AA 0 outer) base outer g') (fun k m nw => ∃ (es : List Ent), k = es.length + 1 ∧ nextOk sc f R (es.map Ent.pt) sn7 ∧ CyM w a n Wl st it se nd (fun x => x ≠ I) es sn7 ((I, oI) :: TT []) m nw) ?iw hg7 (n := es7.length + 1) ⟨es7, rfl, hnx7, CM⟩ F10 N10
          clear CM N10 F10 hnx7 hg7
          rintro k g8 m nw h tk hg8 ⟨es, rfl, hnx, Wt, oN, oS, kvs, vs, c1, c2, cnt, m1, m2, m3, m4, m5, rfl, CD⟩ F8 N8
          refine hide_test fun Q3 hQ3 => ?_
          obtain ⟨hT5, B5, X5, P5, D5⟩ := id hg8
          simp only [List.cons_append, show TT [] ++ Wt = TT Wt from rfl] at N8
          have of1 : ∀ p ∈ Wt, p.1 ≠ nd := fun p hp => (CD.hof p hp).1
          have of2 : ∀ p ∈ Wt, p.1 ≠ se := fun p hp => (CD.hof p hp).2.1
          have of3 : ∀ p ∈ Wt, p.1 ≠ it := fun p hp => (CD.hof p hp).2.2.1
          have of4 : ∀ p ∈ Wt, p.1 ≠ st := fun p hp => (CD.hof p hp).2.2.2.1
          have hvl : vs.length = es.length := by rw [ints_len CD.hV]; simp
          have hel := CD.hes
          k_steps
          unfold NxStop
          refine wpAny_truthy_list (PySem.IsL.isList (n := c2) (N8 _ (.tail _ (.tail _ (.tail _ (.head _))))).1) (by simp; omega) ?_
          cases es with
          | nil =>
            obtain rfl : vs = [] := List.length_eq_zero_iff.mp hvl
            rw [if_neg (by simp)]
            obtain rfl : sn7 = R := hnx
            k_steps
            refine post_of hQ2 ?_
            k_steps
            rename Fr _ _ _ _ => F9
            rename News _ _ _ _ => N9
            refine post_of hQ1 ?_
            show FEndS _ _ _ _ _ _ _
            refine FEndS.intro hg8 F9 N9 ((nd, oN) :: (se, oS) :: (it, W.listOf (([] : List Ent).reverse.map fun e => Value.ref e.bb).toArray c1) :: (st, W.listOf ([] : List Value).toArray c2) :: (TT [] ++ Wt)) (picks [4, 0, 1, 2, 3, 5, 6, 7] 8) (off_cons (Ne.symm oI1) (off_cons (Ne.symm oI2) (off_cons (Ne.symm oI3) (off_cons (Ne.symm oI4) (off_cons (off8 (a.S, instObj 171 a.ds) (.tail _ (.tail _ (.tail _ (.tail _ (.head _)))))) (off_cons (off8 (a.ds, sDict w k1 k2 k3 k4 a.d rv po t3 fi t4) (.tail _ (.tail _ (.tail _ (.tail _ (.tail _ (.head _))))))) (off_cons (off8 (a.d, od) (.tail _ (.tail _ (.tail _ (.tail _ (.tail _ (.tail _ (.head _)))))))) fun p hp => (CD.hof p hp).2.2.2.2))))))) ⟨sn7, hs2, Wt, oN, oS, kvs, [], c1, c2, cnt, m1, m2, m3, m4, m5, rfl, CD.weak fun _ _ => trivial⟩
          | cons e es =>
            rw [if_pos (by simp; intro q; rw [q] at hvl; simp at hvl)]
            obtain ⟨he1, he2, he3, he4, he5⟩ := CD.hE e (.head _)
            k_steps
            unfold NxStop
            rename Fr _ _ _ _ => F9
            rename News _ _ _ _ => N9
            have hil := PySem.IsL.isList (n := c1) (N9 _ (.tail _ (.tail _ (.head _)))).1
            rw [List.reverse_cons, List.map_append, List.map_cons, List.map_nil] at hil
            refine sub_last hil ?_
            k_steps
            unfold NxStop
            rename Fr _ _ _ _ => F9
            rename News _ _ _ _ => N9
            have in8 : ∀ {p : Addr × Obj}, p ∈ Wt → p ∈ (nd, oN) :: (se, oS) :: (it, W.listOf ((e :: es).reverse.map fun e => Value.ref e.bb).toArray c1) :: (st, W.listOf vs.toArray c2) :: (I, oI) :: TT Wt := fun {p} hp => .tail _ (.tail _ (.tail _ (.tail _ (.tail _ (.tail _ (.tail _ (.tail _ hp)))))))
            have NW : News g8 L _ Wt := fun p hp => N9 p (in8 hp)
            have CDs := CyD.step NW CD
            obtain ⟨o1, o2, o3, o4, o5⟩ := CD.hof _ he3
            have o6 : e.ib ≠ a.S := led_ne N9 (in8 he3) (.tail _ (.tail _ (.tail _ (.tail _ (.tail _ (.head _)))))) (fun z => by cases z)
            have o7 : e.ib ≠ a.ds := led_ne N9 (in8 he3) (.tail _ (.tail _ (.tail _ (.tail _ (.tail _ (.tail _ (.head _))))))) (fun z => by cases z)
            have o8 : e.ib ≠ a.d := led_ne N9 (in8 he3) (.tail _ (.tail _ (.tail _ (.tail _ (.tail _ (.tail _ (.tail _ (.head _)))))))) (fun z => by
              obtain ⟨_, _, _, r2, _⟩ := hdo
              rw [r2] at z; cases z)
            refine callWith_wrap (N9 _ (in8 he4)).1 ?_
            obtain ⟨⟨ti, ti', hmi⟩, hmd, us, cu, hms, hus⟩ := M.inf e.nd he1
            have hms' := CD.hW _ hms
            cases hq : (sc e.nd)[e.ps]? with
            | some q =>
              obtain ⟨tq, hu⟩ : ∃ tq, us[e.ps]? = some (.int (q : Int) tq) := ints_at hus (by rw [List.getElem?_map, hq]; rfl)
              refine next_yes (N9 _ (in8 he4)).1 (N9 _ (in8 he3)).1 (PySem.IsL.isList (n := cu) (N9 _ (in8 hms')).1) (by simpa using hu) fun h10 hI10 hs10 => ?_
              have F10 : Fr g8 L h10 m := F9.change hs10 (N9 _ (in8 he3)).2.1 (N9 _ (in8 he3)).2.2
              have N10 := news_repl N9 (in8 he3) hs10 hI10
              rw [repl_cons (Ne.symm o1), repl_cons (Ne.symm o2), repl_cons (Ne.symm o3), repl_cons (Ne.symm o4), repl_cons (Ne.symm o5), repl_cons (Ne.symm o6), repl_cons (Ne.symm o7), repl_cons (Ne.symm o8)] at N10
              k_steps
              refine post_of hQ3 ?_
              k_steps
              rename Fr _ _ _ _ => F11
              rename News _ _ _ _ => N11
              refine post_of hQ2 ?_
              show WEndS _ _ _ _ _ _
              refine WEndS.intro hg8 F11 N11 (k := f) (Nat.lt_succ_self f) ⟨q, tq, { e with ps := e.ps + 1 } :: es, sn7, by walk_at "nx_hv", hsc _ he1 _ (List.mem_of_getElem? hq), ?_, _, oN, oS, kvs, vs, c1, c2, cnt, by walk_at "nx_hv", by walk_at "nx_hv", by walk_at "nx_hv", by walk_at "nx_hv", by walk_at "nx_hv", ?_, CDs⟩
              · have := hnx
                unfold nextOk drain at this
                simp only [List.map_cons, Ent.pt, hq] at this
                exact this
              · simp; rfl
            | none =>
              have hu : us[e.ps]? = none := by
                rw [List.getElem?_eq_none_iff] at hq ⊢
                rw [ints_len hus, List.length_map]; exact hq
              refine next_end rfl (N9 _ (in8 he4)).1 (N9 _ (in8 he3)).1 (PySem.IsL.isList (n := cu) (N9 _ (in8 hms')).1) (by simpa using hu) fun ex h10 h11 hs10 ho10 hx => ?_
              have F10 : Fr g8 L h10 m := F9.change hs10 (N9 _ (in8 he3)).2.1 (N9 _ (in8 he3)).2.2
              have N10 : News g8 L h10 ((nd, oN) :: (se, oS) :: (it, W.listOf ((e :: es).reverse.map fun e => Value.ref e.bb).toArray c1) :: (st, W.listOf vs.toArray c2) :: (I, oI) :: TT (pull e.ib Wt)) := by
                have hne : ∀ p ∈ (nd, oN) :: (se, oS) :: (it, W.listOf ((e :: es).reverse.map fun e => Value.ref e.bb).toArray c1) :: (st, W.listOf vs.toArray c2) :: (I, oI) :: TT (pull e.ib Wt), p.1 ≠ e.ib := off_cons (Ne.symm o1) (off_cons (Ne.symm o2) (off_cons (Ne.symm o3) (off_cons (Ne.symm o4) (off_cons (Ne.symm o5) (off_cons (Ne.symm o6) (off_cons (Ne.symm o7) (off_cons (Ne.symm o8) (pull_off (a := e.ib) (W := Wt)))))))))
                have hin : News g8 L _ ((nd, oN) :: (se, oS) :: (it, W.listOf ((e :: es).reverse.map fun e => Value.ref e.bb).toArray c1) :: (st, W.listOf vs.toArray c2) :: (I, oI) :: TT (pull e.ib Wt)) := all_cons (N9 _ (.head _)) (all_cons (N9 _ (.tail _ (.head _))) (all_cons (N9 _ (.tail _ (.tail _ (.head _)))) (all_cons (N9 _ (.tail _ (.tail _ (.tail _ (.head _))))) (all_cons (N9 _ (.tail _ (.tail _ (.tail _ (.tail _ (.head _)))))) (all_cons (N9 _ (.tail _ (.tail _ (.tail _ (.tail _ (.tail _ (.head _))))))) (all_cons (N9 _ (.tail _ (.tail _ (.tail _ (.tail _ (.tail _ (.tail _ (.head _)))))))) (all_cons (N9 _ (.tail _ (.tail _ (.tail _ (.tail _ (.tail _ (.tail _ (.tail _ (.head _))))))))) (fun p e => N9 p (in8 (pull_mem e).1)))))))))
                exact fun p hp => ⟨(hs10.2 _ (hne p hp)).trans (hin p hp).1, (hin p hp).2⟩
              obtain ⟨vs', tv, rfl⟩ := ints_split (by simpa using CD.hV)
              have CDp := fun oN' hN => CyD.pop (oN' := oN') NW CD CD.apart hN
              clear N9 F9
              refine caught_here B5 hx F10 N10 Xb Tb D5 (by kts_test) fun h12 g9 hT9 F12 N12 B9 X9 P9 D9 => ?_
              have hT10 := hT5.trans hT9
              have of1' : ∀ p ∈ pull e.ib Wt, p.1 ≠ nd := fun p hp => of1 p (pull_mem hp).1
              have of3' : ∀ p ∈ pull e.ib Wt, p.1 ≠ it := fun p hp => of3 p (pull_mem hp).1
              have of4' : ∀ p ∈ pull e.ib Wt, p.1 ≠ st := fun p hp => of4 p (pull_mem hp).1
              clear B5 X5 P5 D5 NW
              k_steps
              unfold NxStop
              rename Fr _ _ _ _ => F13
              rename News _ _ _ _ => N13
              refine kl_pop F13 N13 (p := vs') (y := .int e.nd tv) (by exact kpa_last _ _) (.tail (neN (by dsimp only; omega)) (.tail (neN (by dsimp only; omega)) (.tail (neN (by dsimp only; omega)) (.head (off_cons oI4 (off_cons (neN (by dsimp only; omega)) (off_cons (neN (by dsimp only; omega)) (off_cons (neN (by dsimp only; omega)) of4')))))))) (by simp [sizeLine_eq] at hvl hel ⊢; omega) fun h14 F14 N14 => ?_
              k_steps
              unfold NxStop
              rename Fr _ _ _ _ => F15
              rename News _ _ _ _ => N15
              have hkl : kvs.length = (e :: es).length := by have := congrArg List.length CD.hN2; simpa using this
              refine kda_del F15 N15 (.head (off_cons (neN (by dsimp only; omega)) (off_cons (neN (by dsimp only; omega)) (off_cons (neN (by dsimp only; omega)) (off_cons oI1 (off_cons (neN (by dsimp only; omega)) (off_cons (neN (by dsimp only; omega)) (off_cons (neN (by dsimp only; omega)) of1')))))))) CD.hN1 (intKind_is _ _ _ _) (keys_some (by rw [CD.hN2]; simp)) (by rw [sizeLine_eq]; omega) fun h16 oN' F16 N16 hN' => ?_
              k_steps
              unfold NxStop
              rename Fr _ _ _ _ => F17
              rename News _ _ _ _ => N17
              rw [List.reverse_cons, List.map_append, List.map_cons, List.map_nil] at N17
              refine kl_pop F17 N17 (p := es.reverse.map fun e => Value.ref e.bb) (y := .ref e.bb) (by exact kpa_last _ _) (.tail (neN (by dsimp only; omega)) (.tail (neN (by dsimp only; omega)) (.head (off_cons (neN (by dsimp only; omega)) (off_cons oI3 (off_cons (neN (by dsimp only; omega)) (off_cons (neN (by dsimp only; omega)) (off_cons (neN (by dsimp only; omega)) of3')))))))) (by simp [sizeLine_eq] at hel ⊢; omega) fun h18 F18 N18 => ?_
              k_steps
              rename Fr _ _ _ _ => F19
              rename News _ _ _ _ => N19
              refine post_of hQ3 ?_
              show WEndS _ _ _ _ _ _
              refine WEndS.intro ⟨hT10, B9, X9, P9, D9⟩ F19 N19 (k := es.length + 1) (by simp) ⟨es, rfl, ?_, pull e.ib Wt, oN', oS, _, vs', c1 + 1, c2 + 1, cnt, m1, m2, m3, m4, m5, rfl, CDp oN' hN'⟩
              have := hnx
              unfold nextOk drain at this
              simp only [List.map_cons, Ent.pt, hq] at this
              exact this
end
end Mine
end
section
open PySem PySem.W PyProof.Rows
theorem Mine.anew16 {M : Model} {A : Around} {env : Env} {Q : Flow → Shared → Prop} {E : Value → Shared → Prop} {s : Shared} (h : wpAny M A (execs [] env) Q E s) : wpAny M A (execs [] env) Q E s := by first | (walk1; done) | exact h
end
section
open PySem PySem.W PyProof.Rows PySem.Calls PyProof.Rows.LCg
set_option maxHeartbeats 1000000
namespace Mine
section
variable {w : World} {mean : ExcName → Option Value} {mg mb : Str → Option Value} {A₀ : Around} {base g g₁ h h' : Heap} {outer : List Env} {L : Addr} {m : Loc} {nw : Led} {A : List Addr} {env : Env}
theorem kts_memE {b : Addr} (hf : env.frame = some L) (hm : b ∈ (env :: outer).filterMap (·.frame)) : b = L ∨ b ∈ outer.filterMap (·.frame) := by
  obtain ⟨e, he, hf'⟩ := List.mem_filterMap.mp hm
  rcases List.mem_cons.mp he with rfl | he
  · rw [hf] at hf'; exact .inl (Option.some.inj hf').symm
  · exact .inr (List.mem_filterMap.mpr ⟨e, he, hf'⟩)
theorem dicts_push (D : KtsDicts (outer.filterMap (·.frame)) g) (F : Fr g L h m) (N : News g L h nw) (hA : ∀ x ∈ A, ∃ o, (x, o) ∈ nw) (hf : env.frame = some L := by rfl) : KtsDicts ((env :: outer).filterMap (·.frame)) (hideAll h A) := fun b hb => by
  rcases kts_memE hf hb with e | hb
  · obtain ⟨o, es, ep, ho, hd, _⟩ := F.ns
    rw [e]
    exact ⟨o, es, ep, hideAll_get _ ho (fun hm => by obtain ⟨o', ho'⟩ := hA _ hm; exact (N _ ho').2.1 rfl), hd⟩
  · obtain ⟨o, es, ep, ho, hd⟩ := D b hb
    exact ⟨o, es, ep, hideAll_get _ (F.keep _ _ ho) (fun hm => by obtain ⟨o', ho'⟩ := hA _ hm; have := (N _ ho').2.2; rw [ho] at this; cases this), hd⟩
/-- back from a call that has caught exceptions: the frame stands on a turned ground -/
theorem turned (B : Below A₀ base outer g) (Xb : (Mine.hd.heap_1 w.params).In base) (Tb : TopH mean mg mb base) (D : KtsDicts (outer.filterMap (·.frame)) g) (F : Fr g L h m) (N : News g L h nw) (hA : ∀ x ∈ A, ∃ o, (x, o) ∈ nw)
    (T : KtsTurn ((env :: outer).filterMap (·.frame)) (hideAll h A) g₁) (k : Keeps g₁ h') (hf : env.frame = some L := by rfl) :
    ∃ g', Gd w mean mg mb A₀ base outer g g' ∧ Fr g' L h' m ∧ ∀ nw' : Led, (∀ p ∈ nw', (p ∈ nw ∧ p.1 ∉ A) ∨ ((∃ o, (p.1, o) ∈ nw) ∧ h'.get? p.1 = some p.2) ∨ (h'.get? p.1 = some p.2 ∧ (hideAll h A).get? p.1 = none ∧ p.1 ∉ A)) → News g' L h' nw' := by
  have st : g.StaysIn (hideAll h A) := fun b o e => hideAll_get _ (F.keep _ _ e) fun hm => by
    obtain ⟨o', ho'⟩ := hA _ hm; have := (N _ ho').2.2; rw [e] at this; cases this
  obtain ⟨oL, es, ep, hL, hLd, hLk, hLf⟩ := F.ns
  have hLg : (hideAll h A).get? L = some oL := hideAll_get _ hL fun hm => by obtain ⟨o', ho'⟩ := hA _ hm; exact (N _ ho').2.1 rfl
  have nL₀ : g.get? L = none := kts_self F
  obtain ⟨sl, hs⟩ := T.up hLg
  obtain ⟨T₁, S₁⟩ := kts_turn_at (h := h') (fs := outer.filterMap (·.frame)) (g := g)
    (fun b hb => by
      obtain ⟨_, o, ho', _⟩ := B.frames.mem hb
      exact ⟨o, ho'⟩)
    (fun b o e nmem => k b o (T.other b o (st b o e) (fun q => by
      rcases kts_memE hf q with z | z
      · rw [z, nL₀] at e
        cases e
      · exact nmem z)))
    (fun b o e hm => by
      obtain ⟨sl', hs'⟩ := T.up (st b o e)
      exact ⟨sl', k _ _ hs'⟩)
  have B₃ : Below A₀ base outer (ktsHeap h' (outer.filterMap (·.frame)) g) := ⟨B.stack, fun b o e => T₁.other b o (B.stays b o e) (fun hm => by
    rw [(B.frames.mem hm).1] at e
    cases e), B.frames.of_keeps fun b o e _ => by
    obtain ⟨sl', hs'⟩ := T₁.up e
    exact ⟨_, hs', rfl⟩⟩
  refine ⟨_, ⟨T₁, B₃, Xb.keeps B₃.stays, Tb.keeps B₃.stays, D.turn T₁⟩, ⟨⟨_, es, ep, k _ _ hs, hLd, hLk, hLf⟩, S₁, by rw [T₁.size]; exact F.above⟩, fun nw' s p hp => ?_⟩
  rcases s p hp with ⟨a, b⟩ | ⟨⟨o, a⟩, b⟩ | ⟨a, b, c⟩
  · refine ⟨k _ _ (T.other _ _ (hideAll_get _ (N p a).1 b) fun q => ?_), (N p a).2.1, T₁.none_ _ (N p a).2.2⟩
    rcases kts_memE hf q with z | z
    · exact (N p a).2.1 z
    · obtain ⟨o, ho, _⟩ := (B.frames.mem z).2
      rw [(N p a).2.2] at ho; cases ho
  · exact ⟨b, (N _ a).2.1, T₁.none_ _ (N _ a).2.2⟩
  · refine ⟨a, fun e => ?_, T₁.none_ _ ?_⟩
    · rw [e, hLg] at b; cases b
    · cases q : g.get? p.1 with
      | none => rfl
      | some o => rw [st _ _ q] at b; cases b
end
section
open LCt
variable {prog : Program} {w : World} {A : Around} {E : Value → Shared → Prop} {s : Shared} {h₀ : Heap} {L : Addr} {m : Loc} {env : Env}
noncomputable abbrev viewO (d : Addr) : Obj := { cls := .type "dict_values", data := .fields #[.ref d] }
/-- a table's values as the source of a comprehension -/
noncomputable def SrcVT (prog : Program) (w : World) (A : Around) (h₀ : Heap) (L : Addr) (m : Loc) (env : Env) (ct elt : PySem.Expr) (x : Str) (scope : Scope) (cl : List (Str × Addr)) (Fin : Shared → List Value → Led → Prop) (xv : Value) (s₁ : Shared) : Prop :=
  ∃ vw d od kvs news, xv = .ref vw ∧ A.handled = none ∧ Fr h₀ L s₁.heap m ∧ News h₀ L s₁.heap news ∧ (vw, viewO d) ∈ news ∧ (d, od) ∈ news ∧ od.IsDictOf (intKind prog w) kvs ∧ kvs.length ≤ sizeLine ∧
    ∀ s₂ : Shared, (∃ h, s₂ = { s₁ with heap := h }) → CompRestT prog w A h₀ L m env ct elt x scope cl s₂ (fun nw => (d, od) ∈ nw) (fun i v => ∃ k, kvs[i]? = some (k, v)) (Fin s₂) kvs.length 0 [] news
theorem comp_values {ct elt iter : PySem.Expr} {x : Str} {px : Pos} {scope : Scope} {cl : List (Str × Addr)} {pos : Pos} {Q : Value → Shared → Prop} (_F₀ : Fr h₀ L s.heap m)
    (hclos : closureFor scope env = pure cl) (hcell : ∀ y ∈ scope.names, y.2 ≠ .cell) (hkind : scope.kind = .function)
    (hnames : ∀ y ∈ scope.names, y.2 = .local → scope.names.lookup y.1 = some .local) (hx : scope.names.lookup x = some .local)
    (h : wpAny (model prog w) A (eval iter env) (SrcVT prog w A h₀ L m env ct elt x scope cl (fun s₂ => FinE h₀ L m s₂ Q)) E s)
    (hs : ∀ x, foldedSetIterable iter env x = pure x := by intro _; rfl) :
    wpAny (model prog w) A (eval (.ListComp elt [⟨.Name x px, iter, [ct], 0⟩] scope pos) env) Q E s := by
  rw [eval_ListComp]
  refine wpAny_comprehension_free (use := none) rfl hs hclos hkind hnames (wpAny_mono h (fun xv s₁ h₁ => ?_) fun _ _ e => e)
  obtain ⟨vw, d, od, kvs, news, rfl, hh, F, N, hv, hd, hdo, hsz, R⟩ := h₁
  obtain ⟨es, ep, r1, r2, r3, r4, r5⟩ := hdo
  have at_ : ∀ {h : Heap} {nw : Led}, News h₀ L h nw → (d, od) ∈ nw → h.DictAt (intKind prog w) d kvs ep := fun N hm => ⟨od, es, (N _ hm).1, r1, r2, r3, r4, r5⟩
  have hl := at_ N hd
  have hlt : d < s₁.heap.objs.size := hl.lt_size
  refine wpAny_pyIter_values ⟨_, (N _ hv).1, rfl, rfl⟩ hl ?_
  have up : ∀ b o, s₁.heap.get? b = some o → (s₁.heap.push { cls := .type "dict_valueiterator", data := .fields #[.ref d, .int 0 0, .int kvs.length 0, .int ep 0] }).get? b = some o := fun b o e => Heap.get?_push_of_some _ e
  refine block_T (S := fun nw => (d, od) ∈ nw) (Walks.dictValues (knd := intKind prog w) hh s₁.heap.objs.size d (Nat.ne_of_lt hlt) kvs ep) hsz (fun i h st => by obtain ⟨o, e, _⟩ := st.1; exact ⟨o, e⟩) (fun i h h' o nw st e e' _ N S => ⟨by obtain ⟨o', q, r⟩ := st.1; rw [e] at q; cases q; exact ⟨o, e', r⟩, at_ N S⟩) hcell hkind hx ⟨⟨_, Heap.get?_push_size _ rfl, rfl, rfl⟩, hl.push _⟩ (fun b hb => ?_)
    (F.keeps up) (N.grown up) (Nat.ne_of_lt F.ns.lt) (next_is_new F) (fun p hp => Nat.ne_of_lt (Heap.lt_size (N p hp).1)) hd (R _ ⟨_, rfl⟩) ?_
  · show b < (s₁.heap.push _).objs.size
    rw [Heap.size_push]
    rcases List.mem_cons.mp hb with rfl | hb
    · exact Nat.lt_succ_self _
    · rw [List.mem_singleton.mp hb]; exact Nat.lt_succ_of_lt hlt
  · intro D C h tk m' ys news' F' N' o1 hn hC₀ hD₀ hCL hDL hCD offC fin
    refine ⟨m', hn, fun h'' hs'' => fin D h'' tk (F'.change hs'' hCL hC₀) (fun p hp => ?_) o1⟩
    refine ⟨hs''.extBut _ _ ?_ (N' p hp).1, (N' p hp).2⟩
    rcases List.mem_cons.mp hp with rfl | hp
    · exact Ne.symm hCD
    · exact offC p hp
end
end Mine
end
section
open PySem PySem.W PyProof.Rows PySem.Calls PyProof.Rows.LCg
set_option maxHeartbeats 4000000
namespace Mine
local macro_rules | `(tactic| walk_at $s:str) => wk "HV=nx_hv;S=eval ListComp|call ref;T=CompEnd|SrcVT" s
noncomputable def rdy (n : Nat) (np : Nat → Int) : List Int := ((List.range n).filter fun j => decide (np j = 0)).map fun j : Nat => (j : Int)
theorem rdy_yes {n : Nat} {np : Nat → Int} (h : np n = 0) : rdy (n + 1) np = rdy n np ++ [(n : Int)] := by
  unfold rdy; rw [List.range_succ, List.filter_append, List.map_append]; simp [h]
theorem rdy_no {n : Nat} {np : Nat → Int} (h : np n ≠ 0) : rdy (n + 1) np = rdy n np := by
  unfold rdy; rw [List.range_succ, List.filter_append, List.map_append]; simp [h]
structure PrInv (np : Nat → Int) (nw0 : Led) (k : Nat) (ys : List Value) (nw : Led) : Prop where
  same : nw = nw0
  pre : IntsAre ys (rdy k np)
theorem cx_callA {w : World} {mean : ExcName → Option Value} {mg mb : Str → Option Value} {base : Heap} {outer : List Env} {g h : Heap} {L : Addr} {m : Str → Option Value} {news : List (Addr × Obj)} {env : Env} {r r' : Nat} {A : List Addr} (hA : news.map (·.1) = A)
    (B : Below (AA r' outer) base outer g) (X : (Mine.hd.heap_1 w.params).In g) (T : TopH mean mg mb g) (F : Fr g L h m) (N : News g L h news) (hf : env.frame = some L) (hke : env.scope.kind = .function) :
    Cx w mean mg mb r base (env :: outer) (hideAll h A) := hA ▸ cx_callG B X T F N hf hke
theorem off1_mem {D : Addr} : ∀ {l : Led}, Off1 D l → ∀ p ∈ l, p.1 ≠ D
  | [], _, p, hp => nomatch hp
  | _ :: _, h, p, hp => by
    rcases List.mem_cons.mp hp with e | e
    · rw [e]; exact h.1
    · exact off1_mem h.2 p e
section
variable {w : World} {mean : ExcName → Option Value} {mg mb : Str → Option Value} {base : Heap} {outer : List Env} {g : Heap} {gs : Array GenState} {dr : Drawn} {tk : Nat} {os : OsState} {Q E : Value → Shared → Prop}
theorem c_prepare {a : Lay} {n : Nat} {np : Nat → Int} {sc : Nat → List Nat} {Wl : Led} {g₀ : Heap} {k1 k2 k3 k4 t3 t4 : Tok} {po fi : Int} {od : Obj} {fuel : Nat}
   (e₀ : hideAll g (a.S :: a.ds :: a.d :: Wl.map (·.1)) = g₀) (C : Cx w mean mg mb 1 base outer g₀) (Xb : (Mine.hd.heap_1 w.params).In base) (Tb : TopH mean mg mb base) (D0 : KtsDicts (outer.filterMap (·.frame)) g₀)
   (hS : g.get? a.S = some (instObj 171 a.ds)) (hds : g.get? a.ds = some (sDict w k1 k2 k3 k4 a.d .none po t3 fi t4)) (hd : g.get? a.d = some od) (hWl : ∀ p ∈ Wl, g.get? p.1 = some p.2)
   (hdo : od.IsDictOf (intKind Challenge.rw_ny0273_01.row.prog w) ((List.range n).map fun j : Nat => ((j : Int), Value.ref (a.ia j)))) (lo : (a.d == sysModules) = false) (ne : @LT.lt Nat _ a.ds a.S ∧ @LT.lt Nat _ a.S a.d) (hn : n ≤ 20) (M : TsM a n np (fun j => (sc j).map fun p : Nat => (p : Int)) Wl)
   (hsc : ∀ p, p < n → ∀ q ∈ sc p, q < n) (hrun : (fcAll sc fuel n).isSome = true)
   (ret : ∀ g₁ h' tk' ra rs c, KtsTurn (outer.filterMap (·.frame)) g₀ g₁ → Keeps g₁ h' → (∀ p ∈ (ra, W.listOf rs.toArray c) :: (a.S, instObj 171 a.ds) :: (a.ds, sDict w k1 k2 k3 k4 a.d (.ref ra) po t3 fi t4) :: (a.d, od) :: Wl, h'.get? p.1 = some p.2 ∧ g₀.get? p.1 = none) → IntsAre rs (rdy n np) → (@Ne Nat a.ds ra ∧ @Ne Nat a.S ra ∧ @Ne Nat a.d ra) → (∀ p ∈ Wl, p.1 ≠ ra) → Q .none ⟨h', gs, dr, tk', os⟩) :
   wpAny (model Challenge.rw_ny0273_01.row.prog w) (AA 1 outer) (call (.ref 126) [.ref a.S]) Q E ⟨g, gs, dr, tk, os⟩ := by
  have X := C.X; revert X; k_fill; intro X
  refine wpAny_call ?_
  refine' enter [(Str.ofString "self", .ref a.S)] ((a.S, instObj 171 a.ds) :: (a.ds, sDict w k1 k2 k3 k4 a.d .none po t3 fi t4) :: (a.d, od) :: Wl) (by subst e₀; exact C) (fun p hp => ?hh) ?ho ?hcd ?hb ?hl ?c1 ?c2 ?c3 ?c4 ?_
  case hh =>
    simp only [List.mem_cons] at hp
    rcases hp with e | e | e | e
    · rw [e]; exact hS
    · rw [e]; exact hds
    · rw [e]; exact hd
    · exact hWl p e
  k_dflt ((case ho => k_is); (case hcd => k_is); (case hb => exact BindsTo.of_eq rfl); (case c4 => decide); (case hl => exact locs rfl); (case c1 => exact rfl); (case c2 => exact rfl); (case c3 => exact rfl); k_whole)
  intro g' L h1 tk1 eg F1 N1 B1 X1 T1
  obtain rfl : g' = g₀ := eg.trans e₀
  obtain ⟨ne1, ne2⟩ := ne
  (try dsimp only)
  (try k_fold)
  have Wds : ∀ p ∈ Wl, p.1 ≠ a.ds := fun p hp => (M.off p hp).2.1
  k_steps
  unfold NxStop
  rename Fr _ _ _ _ => F2
  rename News _ _ _ _ => N2
  refine comp_values F2 (by rfl) (by decide) (by rfl) (by decide) (by rfl) ?_
  k_steps
  unfold NxStop
  rename Fr _ _ _ _ => F3
  rename News _ _ _ _ => N3
  rename_i vw _ lvw
  refine ⟨_, a.d, od, _, _, rfl, rfl, F3, N3, .head _, .tail _ (.tail _ (.tail _ (.head _))), hdo, by simp [sizeLine_eq]; omega, ?_⟩
  rintro s₂ ⟨hp2, rfl⟩
  refine comp_indT (PrInv np _) n ?turn ?fin _ 0 [] _ (by simp) ⟨rfl, .nil⟩
  case turn =>
    rintro i ys nw v I2 oI2 C2 oC2 D2 m₂ h4 tk4 E2 hi ⟨rfl, hys⟩ ⟨k, hk⟩ hC hx F4 N4 off4 ne4
    obtain rfl : v = .ref (a.ia i) := by
      rw [List.getElem?_map, List.getElem?_range hi] at hk
      injection hk with hk; injection hk with _ h2; exact h2.symm
    obtain ⟨⟨ti, ti', hmi⟩, hmd, us, cu, hms, hus⟩ := M.inf i hi
    k_steps
    · unfold NxStop
      rename np i = 0 => hz
      rename Fr _ _ _ _ => F5
      rename News _ _ _ _ => N5
      exact CompEnd.intro F5 N5 _ (fun p hp => hp) off4 (.tail _ (.tail _ (.tail _ (.head _)))) ⟨rfl, by rw [rdy_yes hz]; exact ints_snoc hys⟩
    · unfold NxStop
      rename np i ≠ 0 => hz
      rename Fr _ _ _ _ => F5
      rename News _ _ _ _ => N5
      exact CompEnd.intro F5 N5 _ (fun p hp => hp) off4 (.tail _ (.tail _ (.tail _ (.head _)))) ⟨rfl, by rw [rdy_no hz]; exact hys⟩
  case fin =>
    rintro ys nw ⟨rfl, hys⟩
    intro D h6 tk6 F6 N6 off6
    obtain ⟨od1, od2, od3, od4, od5⟩ := off6
    have Dds : @Ne Nat D a.ds := Ne.symm od3
    k_steps
    unfold NxStop
    rename Fr _ _ _ _ => F7
    rename News _ _ _ _ => N7
    have hA : ∀ x ∈ a.S :: a.ds :: a.d :: Wl.map (·.1), ∃ o, (x, o) ∈ (D, LCg.lst ys) :: (vw, viewO a.d) :: (a.S, instObj 171 a.ds) :: (a.ds, sDict w k1 k2 k3 k4 a.d (.ref D) po t3 fi t4) :: (a.d, od) :: Wl := fun x hx => by
      simp only [List.mem_cons] at hx
      rcases hx with e | e | e | e
      · exact ⟨_, by rw [e]; exact .tail _ (.tail _ (.head _))⟩
      · exact ⟨_, by rw [e]; exact .tail _ (.tail _ (.tail _ (.head _)))⟩
      · exact ⟨_, by rw [e]; exact .tail _ (.tail _ (.tail _ (.tail _ (.head _))))⟩
      · obtain ⟨p, hp, e⟩ := List.mem_map.mp e
        exact ⟨p.2, by rw [← e]; exact .tail _ (.tail _ (.tail _ (.tail _ (.tail _ hp))))⟩
    have N8 : News g' L _ ((a.S, instObj 171 a.ds) :: (a.ds, sDict w k1 k2 k3 k4 a.d (.ref D) po t3 fi t4) :: (a.d, od) :: Wl) := fun p hp => N7 p (.tail _ (.tail _ hp))
    have oW := off1_mem od5
    refine wp_callG (r := 0) (by omega) ?_
    refine c_cycle (a := a) (rv := .ref D) (fuel := fuel) (g₀ := hideAll _ (a.S :: a.ds :: a.d :: Wl.map (·.1))) rfl ?CC Xb Tb ?DD (N8 _ (.head _)).1 (N8 _ (.tail _ (.head _))).1 (N8 _ (.tail _ (.tail _ (.head _)))).1 (fun p hp => (N8 p (.tail _ (.tail _ (.tail _ hp)))).1) hdo lo ⟨ne1, ne2⟩ hn M hsc hrun fun g₁ h8 tk8 hT8 kp8 hh8 => ?_
    case CC =>
      exact cx_callA rfl B1 X1 T1 F7 N8 rfl rfl
    case DD =>
      refine dicts_push (A := a.S :: a.ds :: a.d :: Wl.map (·.1)) D0 F7 N7 hA ?_
      exact rfl
    obtain ⟨g9, hG9, F9, N9f⟩ := turned (A := a.S :: a.ds :: a.d :: Wl.map (·.1)) B1 Xb Tb D0 F7 N7 hA hT8 kp8 rfl
    have fr : ∀ p ∈ (D, W.listOf ys.toArray ys.length) :: (a.S, instObj 171 a.ds) :: (a.ds, sDict w k1 k2 k3 k4 a.d (.ref D) po t3 fi t4) :: (a.d, od) :: Wl, g'.get? p.1 = none := fun p hp => by
      rcases List.mem_cons.mp hp with e | hp
      · rw [e]; exact (N7 _ (.head _)).2.2
      · exact (N8 p hp).2.2
    have N9 : News g9 L h8 ((D, W.listOf ys.toArray ys.length) :: (a.S, instObj 171 a.ds) :: (a.ds, sDict w k1 k2 k3 k4 a.d (.ref D) po t3 fi t4) :: (a.d, od) :: Wl) := N9f _ fun p hp => by
      rcases List.mem_cons.mp hp with e | hp
      · refine .inl ⟨by rw [e]; exact .head _, fun hm => ?_⟩
        rw [e] at hm
        simp only [List.mem_cons] at hm
        rcases hm with e | e | e | e
        · exact od2 e.symm
        · exact od3 e.symm
        · exact od4 e.symm
        · obtain ⟨q, hq, e⟩ := List.mem_map.mp e
          exact oW q hq e
      · exact .inr (.inl ⟨⟨_, .tail _ (.tail _ hp)⟩, hh8 p hp⟩)
    obtain ⟨hT10, B10, X10, P10, D10⟩ := id hG9
    clear N7 F7 N8 B1 X1 T1
    k_steps
    rename Fr _ _ _ _ => F11
    rename News _ _ _ _ => N11
    exact ret g9 _ _ D ys ys.length hT10 F11.keep (fun p hp => ⟨(N11 p hp).1, fr p hp⟩) hys ⟨od3, od2, od4⟩ oW
end
end Mine
end
section
open PySem PySem.W PyProof.Rows
theorem Mine.anew17 {M : Model} {A : Around} {env : Env} {Q : Flow → Shared → Prop} {E : Value → Shared → Prop} {s : Shared} (h : wpAny M A (execs [] env) Q E s) : wpAny M A (execs [] env) Q E s := by first | (walk1; done) | exact h
end
section
open PySem PySem.W PyProof.Rows PySem.Calls PyProof.Rows.LCg
set_option maxHeartbeats 1000000
namespace Mine
section
variable {M : Model} {A : Around} {E : Value → Shared → Prop} {s : Shared} {K : Frag} {env : Env} {pos p : Pos} {Q : Value → Shared → Prop}
/-- a method called with a star: the bound method is made -/
theorem method_star {o : PySem.Expr} {name : Str} {apos : Pos} {args : List PySem.Expr}
    (h : wpAny M A (eval o env) (fun ov s₁ => wpAny M A (getAttr ov name true) (fun f s₂ => wpAny M A (callWith pos f [] (backTo pos (starEach args env)) []) Q E s₂) E s₁) E s)
    (he : eval (.Call (.Attribute o name apos) args [] pos) env = (do
      let ov ← eval o env
      standAt apos.atName
      let (f, first) ← holding [ov] (do pure (← getAttr ov name true, ([] : List Value)))
      callWith pos f first (backTo pos (starEach args env)) []) := by rfl) :
    wpAny M A (eval (.Call (.Attribute o name apos) args [] pos) env) Q E s := by
  rw [he]
  refine wpAny_bind (wpAny_mono h (fun ov s₁ h₁ => wpAny_bind (wpAny_standAt (wpAny_bind (wpAny_holding (wpAny_bind (wpAny_mono h₁ (fun f s₂ h₂ => wpAny_pure h₂) fun _ _ x => x)))))) fun _ _ x => x)
theorem callWith_M2 {q f : Addr} {self : Value} {first : List Value} {e : PySem.Expr} {rest : List PySem.Expr} (hf : fnIn K f = true) (h : wpAny M A (spliced (backTo pos (starEach (e :: rest) env))) (fun vs s₁ => MethP K q f self s₁.heap ∧ wpAny M A (call (.ref q) (first ++ vs)) Q E s₁) E s)
    (he : starEach (e :: rest) env = (false, eval e env) :: starEach rest env := by rfl) (hst : (backTo pos (starEach rest env)).any (·.1) = true := by rfl) :
    wpAny M A (callWith pos (.ref q) first (backTo pos (starEach (e :: rest) env)) []) Q E s := by
  rw [he] at h ⊢
  exact ks_call (by show (false || (backTo pos (starEach rest env)).any (·.1)) = true; rw [hst]; rfl) (keeps_M hf) (evalArgs_plain h)
theorem callWith_M1 {q f : Addr} {self : Value} {first : List Value} {e : PySem.Expr} (hf : fnIn K f = true) (h : wpAny M A (eval e env) (fun v s₁ => StarOf M A E v (fun vs s₂ => MethP K q f self s₂.heap ∧ wpAny M A (call (.ref q) (first ++ vs)) Q E s₂) s₁) E s)
    (he : starEach [.Starred e p] env = [(true, eval e env)] := by rfl) :
    wpAny M A (callWith pos (.ref q) first (backTo pos (starEach [.Starred e p] env)) []) Q E s := by
  rw [he]
  exact ks_call rfl (keeps_M hf) (ks_lone h)
end
section
variable {prog : Program} {w : World} {A : Around} {E : Value → Shared → Prop} {s : Shared} {h₀ : Heap} {L a : Addr} {m : Loc} {news : Led}
theorem star_list {its : Array Value} {Q : List Value → Shared → Prop} (F : Fr h₀ L s.heap m) (N : News h₀ L s.heap news) (hl : s.heap.IsList a its) (hz : its.size ≤ sizeLine) (h : ∀ h', Fr h₀ L h' m → News h₀ L h' news → Q its.toList { s with heap := h' }) : StarOf (model prog w) A E (.ref a) Q s := by
  have hT' := hl.typeIs
  obtain ⟨o, D, hc, n, hd⟩ := hl
  have z : wpAny (model prog w) A (collect (.ref a)) Q E s := by
    refine wpAny_collect_seq a (.inl rfl) D hc hd (fun h' hk => h h' ?_ fun p hp => ⟨hk _ _ (N p hp).1, (N p hp).2⟩) hz
    obtain ⟨oL, es, ep, hL, r⟩ := F.ns
    exact ⟨⟨oL, es, ep, hk _ _ hL, r⟩, fun b x q => hk _ _ (F.keep b x q), F.above⟩
  unfold StarOf notIterableAtAll
  exact wpAny_bind (wpAny_specialOf hT' PySem.F.slot_list_iter.lookup (wpAny_pure ⟨rfl, z⟩))
end
theorem code_weaken {M : Model} {A : Around} {c : Code} {R : Result → Shared → Prop} {s : Shared} (d u : Nat)
    (h : codeAny M { A with depth := d, units := u } c R s) (hd : A.depth ≤ d) (hu : A.units ≤ u) : codeAny M A c R s :=
  fun Γ p hc hΓ => h Γ p hc ⟨hΓ.1, Nat.le_trans hΓ.2.1 hd, hΓ.2.2.1, hΓ.2.2.2.1, Nat.le_trans hΓ.2.2.2.2 hu⟩
theorem code_callG {M : Model} {outer : List Env} {env : Env} {r r' : Nat} {c : Code} {R : Result → Shared → Prop} {s : Shared} (hr : r < r' ∧ r' ≤ 8) (h : codeAny M (AA r (env :: outer)) c R s) : codeAny M ((AA r' outer).deeper env) c R s :=
  code_weaken (900 - 100 * r) (9000 - 1000 * r) h (by show 900 - 100 * r' + 1 ≤ _; omega) (by show 9000 - 1000 * r' + 3 ≤ _; omega)
end Mine
end
section
open PySem PySem.W PyProof.Rows PySem.Calls PyProof.Rows.LCg
set_option maxHeartbeats 4000000
namespace Mine
section
variable {prog : Program} {w : World} {A : Around} {s : Shared} {h₀ : Heap} {L : Addr} {env : Env} {Q : Flow → Shared → Prop}
/-- a for with two names over the items of a table that lies on the ground -/
theorem for_items {x y : Str} {px py tp : Pos} {kk : Nat} {iter : PySem.Expr} {body : List Stmt} {pos : Pos} {kvs : List (Int × Value)} {d : Addr} (hh : A.handled = none) (hs : ∀ x, foldedSetIterable iter env x = pure x) (hd : h₀.DictOf (intKind prog w) d kvs) (G : Nat → Loc → Led → Prop)
    (h : wpAny (model prog w) A (eval iter env) (fun xv s₁ => NxStop <| ∃ vw m nw, xv = .ref vw ∧ (∃ ov, s₁.heap.get? vw = some ov ∧ ov.cls = .type "dict_items" ∧ ov.data = .fields #[.ref d]) ∧ Fr h₀ L s₁.heap m ∧ News h₀ L s₁.heap nw ∧ G 0 m nw ∧ ∀ g,
      (∀ I T i k v key m nw oI h tk, kvs[i]? = some (k, v) → (intKind prog w).is k key = true → h.IsTuple T #[key, v] → G i m nw → Fr h₀ L h m → News h₀ L h ((I, oI) :: nw) → (∀ p ∈ nw, p.1 ≠ I) →
        wpAny (model prog w) A (assign (.Tuple [.Name x px, .Name y py] kk tp) env (.ref T)) (fun _ s₂ => wpAny (model prog w) A (execs body env) (FPost h₀ L { s₁ with heap := g } I oI (G (i + 1)) Q) (fun _ _ => False) s₂) (fun _ _ => False) { s₁ with heap := h, toks := tk }) ∧
      (∀ m nw h tk, G kvs.length m nw → Fr h₀ L h m → News h₀ L h nw → Q .next { s₁ with heap := h, toks := tk })) (fun _ _ => False) s) :
    wpAny (model prog w) A (exec (.For (.Tuple [.Name x px, .Name y py] kk tp) iter body [] pos) env) Q (fun _ _ => False) s := by
  refine wpAny_For (wpAny_mono h (fun xv s₁ h₁ => ?_) fun _ _ x => x.elim) hs
  obtain ⟨vw, m, nw, rfl, hvw, F, N, hG, rest⟩ := h₁
  obtain ⟨ep, hat⟩ := hd.dictAt
  have at_ : ∀ {h : Heap} {m : Loc}, Fr h₀ L h m → h.DictAt (intKind prog w) d kvs ep := fun F => hat.at' fun o e => F.keep _ _ e
  have hl := at_ F
  have hlt : d < s₁.heap.objs.size := hl.lt_size
  refine wpAny_pyIter_items hvw hl ?_
  have W := kti_itemsTurns (knd := intKind prog w) (A := A) (elts := [.Name x px, .Name y py]) (kk := kk) (pos := tp) hh s₁.heap.objs.size d (Nat.ne_of_lt hlt) kvs ep
  obtain ⟨turn, fin⟩ := rest (s₁.heap.push { cls := .type "dict_itemiterator", data := .fields #[.none, .bool false, .ref d, .int 0 0, .int kvs.length 0, .int ep 0, .none, .none] })
  have up : ∀ b o, s₁.heap.get? b = some o → (s₁.heap.push { cls := .type "dict_itemiterator", data := .fields #[.none, .bool false, .ref d, .int 0 0, .int kvs.length 0, .int ep 0, .none, .none] }).get? b = some o := fun b o e => Heap.get?_push_of_some _ e
  have hst0 : (∃ ok ov, IsItemIter (s₁.heap.push { cls := .type "dict_itemiterator", data := .fields #[.none, .bool false, .ref d, .int 0 0, .int kvs.length 0, .int ep 0, .none, .none] }) s₁.heap.objs.size d 0 kvs.length ep ok ov) := ⟨.none, .none, Heap.get?_push_size _ rfl⟩
  have F0 := F.keeps up
  have N0 := N.grown up
  have hIL : L ≠ s₁.heap.objs.size := Nat.ne_of_lt F.ns.lt
  have hI₀ : h₀.get? s₁.heap.objs.size = none := next_is_new F
  have off0 : ∀ p ∈ nw, p.1 ≠ s₁.heap.objs.size := fun p hp => Nat.ne_of_lt (Heap.lt_size (N p hp).1)
  generalize s₁.heap.objs.size = I at *
  generalize (s₁.heap.push { cls := .type "dict_itemiterator", data := .fields #[.none, .bool false, .ref d, .int 0 0, .int kvs.length 0, .int ep 0, .none, .none] }) = H1 at *
  refine codeAny_forLoop_any (fun k s' => ∃ h tk i m nw, s' = { s₁ with heap := h, toks := tk } ∧ (∃ ok ov, IsItemIter h I d i kvs.length ep ok ov) ∧ Fr h₀ L h m ∧ News h₀ L h nw ∧ (∀ p ∈ nw, p.1 ≠ I) ∧ G i m nw ∧ i ≤ kvs.length ∧ k = kvs.length + 1 - i) (fun k s' hI => ?_) (kvs.length + 1) ⟨H1, s₁.toks, 0, m, nw, rfl, hst0, F0, N0, off0, hG, Nat.zero_le _, rfl⟩
  obtain ⟨h, tk, i, m, nw, rfl, hst, F, N, off, hG, hi, rfl⟩ := hI
  by_cases hlt : i < kvs.length
  · refine W.item i _ _ _ hlt ⟨hst, at_ F⟩ fun v h₂ tk₂ hMd hk₂ => ?_
    refine W.go i v _ _ _ hMd fun h₃ hP hst₃ hk₃ => ?_
    obtain ⟨T, key, k, x', rfl, hx, hkey, hT⟩ := hP
    have F₃ : Fr h₀ L h₃ m := fr_but (fr_but F hk₂ hIL hI₀) hk₃ hIL hI₀
    have N₂ := news_but (news_but N hk₂ off) hk₃ off
    obtain ⟨⟨ok, ov, he⟩, _⟩ := hst₃
    obtain ⟨oI, he, back⟩ : ∃ oI, h₃.get? I = some oI ∧ ∀ h : Heap, h.get? I = some oI → IsItemIter h I d (i + 1) kvs.length ep ok ov := ⟨_, he, fun _ e => e⟩
    have N₃ : News h₀ L h₃ ((I, oI) :: nw) := fun p hp => by
      rcases List.mem_cons.mp hp with rfl | hp
      · exact ⟨he, Ne.symm hIL, hI₀⟩
      · exact N₂ p hp
    refine wpAny_mono (turn I T i k x' key m nw oI h₃ tk₂ hx hkey hT hG F₃ N₃ off) (fun _ s₂ h₃' => ?_) fun _ _ x => x.elim
    refine wpAny_mono h₃' (fun f s₃ h₄ => ?_) fun _ _ x => x.elim
    have next : FEnd h₀ L { s₁ with heap := H1 } I oI (G (i + 1)) s₃ → ∃ k', k' < kvs.length + 1 - i ∧ ∃ h tk i m nw, s₃ = { s₁ with heap := h, toks := tk } ∧ (∃ ok ov, IsItemIter h I d i kvs.length ep ok ov) ∧ Fr h₀ L h m ∧ News h₀ L h nw ∧ (∀ p ∈ nw, p.1 ≠ I) ∧ G i m nw ∧ i ≤ kvs.length ∧ k' = kvs.length + 1 - i := by
      rintro ⟨h, tk, m, nw, rfl, F, N, off, hG⟩
      exact ⟨kvs.length + 1 - (i + 1), by omega, h, tk, i + 1, m, nw, rfl, ⟨ok, ov, back _ (N _ (.head _)).1⟩, F, fun p hp => N p (List.mem_cons_of_mem _ hp), off, hG, hlt, rfl⟩
    cases f with
    | next => exact next h₄
    | cont => exact next h₄
    | brk => exact h₄
    | ret v => exact h₄
  · obtain rfl : i = kvs.length := Nat.le_antisymm hi (Nat.not_lt.mp hlt)
    refine W.done _ _ _ ⟨hst, at_ F⟩ fun h₂ tk₂ hk₂ => ?_
    exact wpAny_execs_nil (fin m nw h₂ tk₂ hG (fr_but F hk₂ hIL hI₀) (news_but N hk₂ off))
end
section
variable {prog : Program} {w : World} {A : Around} {E : Value → Shared → Prop} {s : Shared} {h₀ : Heap} {L d : Addr} {m : Loc} {news : Led} {kvs : List (Int × Value)}
theorem items_method {pl : Sem Bool} {Q : Value × List Value → Shared → Prop} (hD : s.heap.DictOf (intKind prog w) d kvs) (h : Q (.builtin "dict.items", [.ref d]) s) : wpAny (model prog w) A (getMethod (.ref d) "items" pl) Q E s :=
  getMethod_builtin hD.typeIs PySem.F.plainAttrs_dict PySem.F.slot_dict_items PySem.F.type_dict_items hD.mapOf.noDict h
theorem items_call {Q : Value → Shared → Prop} (F : Fr h₀ L s.heap m) (N : News h₀ L s.heap news) (hD : s.heap.DictOf (intKind prog w) d kvs) (lo : (d == sysModules) = false)
    (h : ∀ V h', Fr h₀ L h' m → News h₀ L h' ((V, ({ cls := .type "dict_items", data := .fields #[.ref d] } : Obj)) :: news) → Q (.ref V) { s with heap := h' }) : wpAny (model prog w) A (call (.builtin "dict.items") [.ref d]) Q E s :=
  call_meetsIn PySem.F.slot_dict_items hD.typeIs PySem.F.entry_dict_items (PySem.F.args_dict_items_1 _) (meets_dict_items (intKind prog w) d lo) ⟨⟨_, hD⟩, h _ _ (F.push _) (News.push F N _ rfl)⟩
end
local macro_rules | `(tactic| walk_at $s:str) => wk "S=exec For Tuple Call cons nil|assign Tuple|call builtin:dict.items|call ref;HV=nx_hv;NM=eval Name;D=FPost" s
local macro_rules | `(tactic| walk_at "getMethod ref") => `(tactic| (k_here; (with_reducible show wpAny _ _ (getMethod (Value.ref _) (Str.ofString "items") _) _ _ _); refine nx_stop ?_))
theorem news_rot {g h : Heap} {L : Addr} {a b c : Addr × Obj} (N : News g L h [a, b, c]) : News g L h (b :: c :: [a]) := pickn N [1, 2, 0]
noncomputable def iniNp (hs : Nat → List Nat) : Nat → Nat → Int
  | 0 => fun _ => 0
  | n + 1 => fun j => if j = n then ((hs n).length : Int) else iniNp hs n j
noncomputable def iniSc (hs : Nat → List Nat) : Nat → Nat → List Int
  | 0 => fun _ => []
  | n + 1 => fun j => if j = n then [] else addSc n (hs n) (iniSc hs n) j
theorem iniSc_len {hs : Nat → List Nat} {n : Nat} (h : ∀ i, i < n → (hs i).length ≤ 3) : ∀ j, (iniSc hs n j).length ≤ 3 * n := by
  induction n with
  | zero => intro j; simp [iniSc]
  | succ n ih =>
    intro j
    unfold iniSc
    by_cases e : j = n
    · simp [e]
    · rw [if_neg e]
      have h1 := @addSc_len n (hs n) (iniSc hs n) j
      have h2 := ih (fun i hi => h i (by omega)) j
      have h3 := h n (by omega)
      omega
theorem under_make {A : Around} {C x : Addr} : A.under (.builtin "type.__call__" ⟨[.ref C, .ref x], []⟩) = { A with depth := A.depth + 1, units := A.units + 1 } := by
  have h1 : (Code.builtin "type.__call__" ⟨[.ref C, .ref x], []⟩).guards = [] := by first | rfl | kernel_rfl
  have h2 : (Code.builtin "type.__call__" ⟨[.ref C, .ref x], []⟩).envs = [] := by first | rfl | kernel_rfl
  have h3 : (Code.builtin "type.__call__" ⟨[.ref C, .ref x], []⟩).weight = 1 := by first | rfl | kernel_rfl
  have h4 : (Code.builtin "type.__call__" ⟨[.ref C, .ref x], []⟩).cUnits = 1 := by first | rfl | kernel_rfl
  obtain ⟨hd, d, fr, gs, u⟩ := A
  unfold Around.under
  rw [h1, h2, h3, h4]
  simp [pushEnvs, pushGuards]
theorem code_callT {M : Model} {outer : List Env} {env : Env} {r r' : Nat} {c : Code} {C x : Addr} {R : Result → Shared → Prop} {s : Shared} (hr : r < r' ∧ r' ≤ 8) (h : codeAny M (AA r (env :: outer)) c R s) : codeAny M (((AA r' outer).deeper env).under (.builtin "type.__call__" ⟨[.ref C, .ref x], []⟩)) c R s := by
  rw [under_make]
  exact code_weaken (900 - 100 * r) (9000 - 1000 * r) h (by show 900 - 100 * r' + 1 + 1 ≤ _; omega) (by show 9000 - 1000 * r' + 3 + 1 ≤ _; omega)
section
variable {w : World} {mean : ExcName → Option Value} {mg mb : Str → Option Value} {base : Heap} {outer : List Env} {g : Heap} {gs : Array GenState} {dr : Drawn} {tk : Nat} {os : OsState} {Q E : Value → Shared → Prop}
theorem c_initC {R : Result → Shared → Prop} {S ds ha : Addr} {g₀ : Heap} {la : Nat → Addr} {hv : Nat → List Value} {hs : Nat → List Nat} (e₀ : hideAll g [S, ds] = g₀) (C : Cx w mean mg mb 3 base outer g₀) (hS : g.get? S = some (instObj 171 ds)) (hds : g.get? ds = some (W.dictOf [] 0)) (lt : @LT.lt Nat _ ds S) (loh : (ha == sysModules) = false)
   (hd : Heads w g₀ ha la hv (fun i => (hs i).map fun p : Nat => (p : Int))) (h3 : ∀ i, i < 9 → (hs i).length ≤ 3) (hp : ∀ i, i < 9 → ∀ p ∈ hs i, p < i)
   (ret : ∀ (a : Lay) (k1 k2 k3 k4 t3 t4 : Tok) (od : Obj) (Wl : Led) h' tk', a.S = S → a.ds = ds → Keeps g₀ h' → (∀ p ∈ (a.S, instObj 171 a.ds) :: (a.ds, sDict w k1 k2 k3 k4 a.d .none 0 t3 0 t4) :: (a.d, od) :: Wl, h'.get? p.1 = some p.2 ∧ g₀.get? p.1 = none) →
     od.IsDictOf (intKind Challenge.rw_ny0273_01.row.prog w) ((List.range 9).map fun j : Nat => ((j : Int), Value.ref (a.ia j))) → TsM a 9 (iniNp hs 9) (iniSc hs 9) Wl → (a.d == sysModules) = false → @LT.lt Nat _ a.S a.d → R (.ok (.ret .none)) ⟨h', gs, dr, tk', os⟩) :
   codeAny (model Challenge.rw_ny0273_01.row.prog w) (AA 3 outer) (.call (.ref 107) ⟨[.ref S, .ref ha], []⟩) R ⟨g, gs, dr, tk, os⟩ := by
  have X := C.X; revert X; k_fill; intro X
  have Xg : (Mine.hd.heap_1 w.params).In g := X.keeps fun b o e => by rw [← e₀] at e; exact of_hideAll _ e
  refine' enter [(Str.ofString "graph", .ref ha), (Str.ofString "self", .ref S)] ((S, instObj 171 ds) :: [(ds, W.dictOf [] 0)]) (by subst e₀; exact C) (all_cons hS (all_cons hds all_nil)) ?ho ?hcd ?hb ?hl ?c1 ?c2 ?c3 ?c4 ?_
  k_dflt ((case ho => k_is); (case hcd => k_is); (case hb => exact binds_K (by assumption) rfl (by k_is) rfl rfl rfl); (case c4 => decide); (case hl => exact locs rfl); (case c1 => exact rfl); (case c2 => exact rfl); (case c3 => exact rfl); k_whole)
  intro g' L h1 tk1 eg F1 N1 B1 X1 T1
  obtain rfl : g' = g₀ := eg.trans e₀
  (try dsimp only)
  (try k_fold)
  k_steps
  unfold NxStop
  rename Fr _ _ _ _ => F2
  rename News _ _ _ _ => N2
  rename Obj.IsDictOf _ _ _ => hdo0
  rename_i d _ od0 lo _ _ _ ld _ _ _ _
  obtain ⟨k1, k2, k3, k4, t3, t4, N2⟩ : ∃ k1 k2 k3 k4 t3 t4, News g' L _ ((S, instObj 171 ds) :: (ds, sDict w k1 k2 k3 k4 d .none 0 t3 0 t4) :: [(d, od0)]) := ⟨_, _, _, _, _, _, news_rot N2⟩
  refine for_items (h₀ := g') (L := L) rfl (fun _ => rfl) hd.dict (fun i m nw => ∃ (a : Lay) (od : Obj) (Wl : Led), m (Str.ofString "self") = some (.ref S) ∧ a.S = S ∧ a.ds = ds ∧ a.d = d ∧ nw = (S, instObj 171 ds) :: (ds, sDict w k1 k2 k3 k4 d .none 0 t3 0 t4) :: (d, od) :: Wl ∧
    od.IsDictOf (intKind Challenge.rw_ny0273_01.row.prog w) ((List.range i).map fun j : Nat => ((j : Int), Value.ref (a.ia j))) ∧ TsM a i (iniNp hs i) (iniSc hs i) Wl) ?_
  k_steps
  unfold NxStop
  rename Fr _ _ _ _ => F3
  refine items_method (dict_keeps F3.keep hd.dict) ?_
  k_steps
  unfold NxStop
  rename Fr _ _ _ _ => F3
  rename News _ _ _ _ => N3
  refine items_call F3 N3 (dict_keeps F3.keep hd.dict) loh fun V h4 F4 N4 => ?_
  refine ⟨V, _, (S, instObj 171 ds) :: (ds, sDict w k1 k2 k3 k4 d .none 0 t3 0 t4) :: (d, od0) :: [], rfl, ⟨_, (N4 _ (.head _)).1, rfl, rfl⟩, F4, fun p hp => N4 p (.tail _ hp), ?g0, fun gg => ⟨?trn, ?fin⟩⟩
  case g0 =>
    refine ⟨⟨S, ds, d, fun _ => 0, fun _ => 0, fun _ => 0⟩, od0, [], rfl, rfl, rfl, rfl, rfl, hdo0, ⟨fun j hj => by omega, fun i j hi => by omega, fun p hp => nomatch hp⟩⟩
  case fin =>
    rintro m nw h tk ⟨a, od, Wl, m1, rfl, rfl, rfl, rfl, hdo, M⟩ F8 N8
    k_steps
    exact ret a k1 k2 k3 k4 t3 t4 od Wl h tk rfl rfl F8.keep (fun p hp => ⟨(N8 p hp).1, (N8 p hp).2.2⟩) hdo M lo ld.1
  case trn =>
    rintro I T i k v key m nw oI h tk hk hkey hT ⟨a, od, Wl, m1, rfl, rfl, rfl, rfl, hdo, M⟩ F8 N8 off8
    obtain ⟨rfl, hi, rfl⟩ : k = (i : Int) ∧ i < 9 ∧ v = .ref (la i) := by
      rw [List.getElem?_map, Option.map_eq_some_iff] at hk
      obtain ⟨j, h1, h2⟩ := hk
      have hlt : i < 9 := by
        have := (List.getElem?_eq_some_iff.mp h1).1
        simpa using this
      rw [List.getElem?_range hlt] at h1
      injection h1 with h1
      injection h2 with h2 h3
      subst h1
      exact ⟨h2.symm, hlt, h3.symm⟩
    obtain ⟨tkey, rfl⟩ := Value.isInt_shape hkey
    k_steps
    unfold NxStop
    refine unpackN_ F8 N8 (items := #[.int i tkey, .ref (la i)]) hT rfl rfl rfl fun h9 F9 N9 => ?_
    k_steps
    refine method_star ?_
    k_steps
    rename Fr _ _ _ _ => F10
    rename News _ _ _ _ => N10
    refine callWith_M2 (K := Mine.hd.heap_1 w.params) (f := 121) (self := .ref a.S) (by k_is) ?_
    k_steps
    rename Fr _ _ _ _ => F11
    rename News _ _ _ _ => N11
    have hvl : (hv i).length = (hs i).length := by rw [ints_len (hd.list i hi).2, List.length_map]
    refine star_list F11 N11 (stays_list F11.keep (hd.list i hi).1) (by have := h3 i hi; rw [List.size_toArray, sizeLine_eq]; omega) fun h12 F12 N12 => ?_
    k_steps
    unfold NxStop
    rw [List.append_nil]
    rename Fr _ _ _ _ => F13
    rename News _ _ _ _ => N13
    have oI1 := off8
    have inA : ∀ x ∈ a.S :: a.ds :: a.d :: Wl.map (·.1), ∃ o, (x, o) ∈ (I, oI) :: (a.S, instObj 171 a.ds) :: (a.ds, sDict w k1 k2 k3 k4 a.d .none 0 t3 0 t4) :: (a.d, od) :: Wl := all_cons ⟨_, (.tail _ (.head _))⟩ (all_cons ⟨_, (.tail _ (.tail _ (.head _)))⟩ (all_cons ⟨_, (.tail _ (.tail _ (.tail _ (.head _))))⟩ (in_map fun p hp => (.tail _ (.tail _ (.tail _ (.tail _ (hp))))))))
    have nI : I ∉ a.S :: a.ds :: a.d :: Wl.map (·.1) := nm (Ne.symm (off8 _ (.head _))) (nm (Ne.symm (off8 _ (.tail _ (.head _)))) (nm (Ne.symm (off8 _ (.tail _ (.tail _ (.head _))))) (not_map fun p hp => off8 p (.tail _ (.tail _ (.tail _ hp))))))
    refine call_meth N13 (.head _) ?_
    have N14 : News g' L _ ((I, oI) :: (a.S, instObj 171 a.ds) :: (a.ds, sDict w k1 k2 k3 k4 a.d .none 0 t3 0 t4) :: (a.d, od) :: Wl) := fun p hp => N13 p (.tail _ hp)
    have N15 : News g' L _ ((a.S, instObj 171 a.ds) :: (a.ds, sDict w k1 k2 k3 k4 a.d .none 0 t3 0 t4) :: (a.d, od) :: Wl) := fun p hp => N14 p (.tail _ hp)
    refine code_callG (r := 2) (by omega) ?_
    refine c_addC (mean := mean) (mg := mg) (mb := mb) (base := base) (a := a) (n := i) (np := iniNp hs i) (sc := iniSc hs i) (Wl := Wl) (vs := hv i) (ps := hs i) (g₀ := hideAll _ (a.S :: a.ds :: a.d :: Wl.map (·.1))) rfl ?CC (N15 _ (.head _)).1 (N15 _ (.tail _ (.head _))).1 (N15 _ (.tail _ (.tail _ (.head _)))).1 (fun p hp => (N15 p (.tail _ (.tail _ (.tail _ hp)))).1) hdo lo ⟨lt, ld.1⟩ (by omega) M (hd.list i hi).2 (hp i hi) (by have := h3 i hi; omega) (fun j hj => by have := iniSc_len (n := i) (fun k hk => h3 k (by omega)) j; omega) fun i' di si od' Wl' h16 tk16 kk hh hdo' M' => ?_
    case CC => exact cx_callA rfl B1 X1 T1 F13 N15 rfl rfl
    have F16 := fr_hide F13 N14 inA kk
    have N16 : News g' L h16 ((I, oI) :: (a.S, instObj 171 a.ds) :: (a.ds, sDict w k1 k2 k3 k4 a.d .none 0 t3 0 t4) :: (a.d, od') :: Wl') := news_hide F13 N14 kk (all_cons (.inl ⟨.head _, nI⟩) fun p hp => Stays.hid inA (hh p hp))
    have off16 : ∀ p ∈ (a.S, instObj 171 a.ds) :: (a.ds, sDict w k1 k2 k3 k4 a.d .none 0 t3 0 t4) :: (a.d, od') :: Wl', p.1 ≠ I := fun p hp => off_hid N14 (.head _) nI (hh p hp).2
    clear N13 N14 N15 F13
    k_steps
    refine FEnd.intro F16 N16 _ (fun p hp => hp) off16 ⟨a.ext i i' di si, od', Wl', by walk_at "nx_hv", rfl, rfl, rfl, rfl, hdo', ?_⟩
    rw [hvl] at M'
    exact M'
end
end Mine
end
section
open PySem PySem.W PyProof.Rows
theorem Mine.anew18 {M : Model} {A : Around} {env : Env} {Q : Flow → Shared → Prop} {E : Value → Shared → Prop} {s : Shared} (h : wpAny M A (execs [] env) Q E s) : wpAny M A (execs [] env) Q E s := by first | (walk1; done) | exact h
end
section
open PySem PySem.W PyProof.Rows PySem.Calls PyProof.Rows.LCg
set_option maxHeartbeats 1000000
namespace Mine
section
variable {prog : Program} {w : World} {A : Around} {E : Value → Shared → Prop} {s : Shared} {h₀ : Heap} {L : Addr} {m : Loc} {news : Led}
/-- a tuple of ints that stand in order, sorted -/
theorem sorted_tup {T : Addr} {vs : List Value} {ns : List Int} {Q : Value → Shared → Prop} (F : Fr h₀ L s.heap m) (N : News h₀ L s.heap news) (hT : (T, ({ cls := .type "tuple", data := .seq vs.toArray } : Obj)) ∈ news) (hi : IntsAre vs ns) (h64 : ns.length < 64) (hs : ns.Pairwise (fun x y => x ≤ y))
    (h : ∀ (D : Addr) vs' c h', Fr h₀ L h' m → News h₀ L h' ((D, W.listOf (List.toArray vs') c) :: news) → (∀ q ∈ news, @LT.lt Nat _ q.1 D) → IntsAre vs' ns → Q (.ref D) { s with heap := h' }) : wpAny (model prog w) A (call (.builtin "sorted") [.ref T]) Q E s := by
  refine call_function_entry kind_sorted plain_sorted entry_sorted (args_sorted1 _) ?_
  unfold Builtin.«sorted»
  refine wpAny_bind (m := checkCount "sorted" 1 1 _) (wpAny_pure ?_)
  have hl := ints_len hi
  have hz : vs.length ≤ sizeLine := by rw [sizeLine_eq]; omega
  refine wpAny_bind (wpAny_collect_seq T (.inr rfl) (N _ hT).1 rfl rfl (fun h' hk => ?_) (by simpa using hz))
  refine wpAny_bind (wpAny_newList ?_ (by simpa using hz))
  have N' : News h₀ L h' news := fun p hp => ⟨hk _ _ (N p hp).1, (N p hp).2⟩
  have hg := ksk_lsort (prog := prog) (w := w) (A := A.in1) (E := E) (s := { s with heap := h'.push { cls := .type "list", data := .seq vs.toArray.toList.toArray } }) (D := h'.objs.size) (Q := fun _ s' => Q (.ref h'.objs.size) s') ((F.keeps hk).push _) (News.push (F.keeps hk) N' _ rfl) (fun o => .head fun p hp => Nat.ne_of_lt (Heap.lt_size (N' p hp).1)) rfl (by simpa using hi) h64
    (fun vs' ns' c h'' F'' N'' a1 _ a3 a4 _ => by
      obtain rfl := lks_uniq a3 a4 hs
      exact h _ vs' c h'' F'' N'' (fun q hq => Heap.lt_size (N' q hq).1) a1)
  refine wpAny_bind (wpAny_holding (wpAny_mono hg (fun _ s' x => ?_) fun _ _ e => e))
  exact wpAny_pure ⟨_, rfl, x⟩
end
end Mine
end
section
open PySem PySem.W PyProof.Rows PySem.Calls PyProof.Rows.LCg
set_option maxHeartbeats 4000000
namespace Mine
theorem TsM.congr {a : Lay} {n : Nat} {np np' : Nat → Int} {sc sc' : Nat → List Int} {Wl : Led} (M : TsM a n np sc Wl) (h1 : ∀ j, j < n → np j = np' j) (h2 : ∀ j, j < n → sc j = sc' j) : TsM a n np' sc' Wl :=
  ⟨fun j hj => by rw [← h1 j hj, ← h2 j hj]; exact M.inf j hj, M.inj, M.off⟩
noncomputable def psR (r : Nat) : List Nat := [3 * r, 3 * r + 1, 3 * r + 2]
/-- the state of the numbers of forerunners when the round r begins -/
noncomputable def npR (hs sc : Nat → List Nat) : Nat → Nat → Int
  | 0 => iniNp hs 9
  | r + 1 => (dnAll sc (psR r) (outNp (-1) (psR r) (npR hs sc r), [])).1
/-- what the sorter's run over a table of heads is to show, on plain data -/
structure Cnt (hs sc : Nat → List Nat) (fuel : Nat) (wy : Nat → Int) : Prop where
  len : ∀ i, i < 9 → (hs i).length ≤ 3
  less : ∀ i, i < 9 → ∀ p ∈ hs i, p < i
  suc : ∀ j, j < 9 → iniSc hs 9 j = (sc j).map fun p : Nat => (p : Int)
  into : ∀ p, p < 9 → ∀ q ∈ sc p, q < 9
  nine : ∀ p, (sc p).length ≤ 9
  cyc : (fcAll sc fuel 9).isSome = true
  first : rdy 9 (npR hs sc 0) = (psR 0).map fun p : Nat => (p : Int)
  out : ∀ r, r < 3 → ∀ k, k < 3 → (dnAll sc ((psR r).take k) (outNp (-1) (psR r) (npR hs sc r), [])).1 (3 * r + k) = -1
  next : ∀ r, r < 3 → (dnAll sc (psR r) (outNp (-1) (psR r) (npR hs sc r), [])).2 = if r < 2 then (psR (r + 1)).map fun p : Nat => (p : Int) else []
  one : ∀ j, j < 3 → wy j = 1
  sum : ∀ j, 3 ≤ j → j < 9 → wy j = ((hs j).map wy).sum
  small : ∀ j, j < 9 → 0 ≤ wy j ∧ wy j ≤ 100
theorem heads_keeps {w : World} {g h : Heap} {ha : Addr} {la : Nat → Addr} {hv : Nat → List Value} {hs : Nat → List Int} (x : Heads w g ha la hv hs) (k : Keeps g h) : Heads w h ha la hv hs :=
  ⟨dict_keeps k x.dict, fun i hi => ⟨k.list (x.list i hi).1, (x.list i hi).2⟩⟩
theorem led_in {a : Lay} {o1 o2 o3 : Obj} {Wl : Led} {nw : Led} (h : ∀ p ∈ (a.S, o1) :: (a.ds, o2) :: (a.d, o3) :: Wl, p ∈ nw) : ∀ x ∈ a.S :: a.ds :: a.d :: Wl.map (·.1), ∃ o, (x, o) ∈ nw := fun x hx => by
  simp only [List.mem_cons] at hx
  rcases hx with e | e | e | e
  · exact ⟨_, by rw [e]; exact h _ (.head _)⟩
  · exact ⟨_, by rw [e]; exact h _ (.tail _ (.head _))⟩
  · exact ⟨_, by rw [e]; exact h _ (.tail _ (.tail _ (.head _)))⟩
  · obtain ⟨p, hp, e⟩ := List.mem_map.mp e
    exact ⟨p.2, by rw [← e]; exact h p (.tail _ (.tail _ (.tail _ hp)))⟩
theorem heads_turn {w : World} {fs : List Addr} {g h : Heap} {ha : Addr} {la : Nat → Addr} {hv : Nat → List Value} {hs : Nat → List Int} (x : Heads w g ha la hv hs) (T : KtsTurn fs g h) (hn : ha ∉ fs) : Heads w h ha la hv hs := by
  refine ⟨?_, fun i hi => ⟨?_, (x.list i hi).2⟩⟩
  · obtain ⟨o, es, ep, ho, r⟩ := x.dict
    exact ⟨o, es, ep, T.other _ _ ho hn, r⟩
  · obtain ⟨o, ho, hc, n, hd⟩ := (x.list i hi).1
    obtain ⟨sl, hs⟩ := T.up ho
    exact ⟨_, hs, hc, n, hd⟩
theorem ways_some {wy : Nat → Int} {tw : Nat → Tok} {n k : Nat} (h : k < n) : valueAt ((List.range n).map fun j : Nat => ((j : Int), Value.int (wy j) (tw j))) (k : Int) = some (.int (wy k) (tw k)) := by
  unfold valueAt
  have : ((List.range n).map fun j : Nat => ((j : Int), Value.int (wy j) (tw j))).find? (fun kv => decide (kv.1 = (k : Int))) = some ((k : Int), Value.int (wy k) (tw k)) := by
    rw [List.find?_map, Option.map_eq_some_iff]
    refine ⟨k, ?_, rfl⟩
    rw [List.find?_range_eq_some]
    refine ⟨by simp, by simpa using h, fun j hj => by simp; omega⟩
  rw [this]; rfl
theorem ways_set {wy : Nat → Int} {tw : Nat → Tok} {n : Nat} {x : Int} {t : Tok} (hx : x = wy n) : stored ((List.range n).map fun j : Nat => ((j : Int), Value.int (wy j) (tw j))) (n : Int) (.int x t) = (List.range (n + 1)).map fun j : Nat => ((j : Int), Value.int (wy j) (if j = n then t else tw j)) := by
  rw [stored_new]
  · rw [List.range_succ, List.map_append]
    congr 1
    · refine List.map_congr_left fun j hj => ?_
      rw [if_neg (Nat.ne_of_lt (List.mem_range.mp hj))]
    · simp [hx]
  · intro hm
    simp only [List.map_map, List.mem_map, List.mem_range, Function.comp] at hm
    obtain ⟨j, hj, e⟩ := hm
    omega
/-- what stands between the rounds -/
inductive CtInv (w : World) (L : Addr) (a : Lay) (ha wd ro ra : Addr) (od : Obj) (k1 k2 k3 k4 : Tok) (hs sc : Nat → List Nat) (wy : Nat → Int) (r : Nat) (m : Loc) (nw : Led) : Prop
  | out (Rl Wl : Led) (oWd oC : Obj) (rs : List Value) (cr c : Nat) (t3 t4 : Tok) (tw : Nat → Tok) (qs : List (Addr × List Value × Nat)) (z1 : m (Str.ofString "sorter") = some (.ref a.S)) (z2 : m (Str.ofString "rounds") = some (.ref ro)) (z3 : m (Str.ofString "heads") = some (.ref ha)) (z4 : nw = (wd, oWd) :: (ro, W.listOf (qs.map fun q => Value.ref q.1).toArray c) :: (L + 1, oC) :: (ra, W.listOf rs.toArray cr) :: (a.S, instObj 171 a.ds) :: (a.ds, sDict w k1 k2 k3 k4 a.d (.ref ra) (3 * r : Nat) t3 (3 * r : Nat) t4) :: (a.d, od) :: (Rl ++ Wl)) (z5 : oC.data = .cell (some (.ref wd))) (z6 : oWd.IsDictOf (intKind Challenge.rw_ny0273_01.row.prog w) ((List.range (3 * r)).map fun j : Nat => ((j : Int), Value.int (wy j) (tw j)))) (z7 : IntsAre rs (if r < 3 then (psR r).map fun p : Nat => (p : Int) else [])) (z8 : TsM a 9 (npR hs sc r) (fun j => (sc j).map fun p : Nat => (p : Int)) Wl) (z9 : (∀ q ∈ qs, (q.1, W.listOf q.2.1.toArray q.2.2) ∈ Rl)) (z10 : qs.length = r) (z11 : (∀ i q, qs[i]? = some q → IntsAre q.2.1 ((psR i).map fun p : Nat => (p : Int)))) (z12 : (∀ p ∈ Rl ++ Wl, p.1 ≠ wd ∧ p.1 ≠ ro ∧ p.1 ≠ L + 1 ∧ p.1 ≠ ra ∧ p.1 ≠ a.S ∧ p.1 ≠ a.ds ∧ p.1 ≠ a.d)) (z13 : (∀ p ∈ Rl, ∀ q ∈ Wl, p.1 ≠ q.1)) : CtInv w L a ha wd ro ra od k1 k2 k3 k4 hs sc wy r m nw
local macro_rules | `(tactic| walk_at $s:str) => wk "HV=nx_hv;S=call ref|exec While Call cons nil|call builtin:sorted|call builtin:list.append|exec For Name Name cons nil|eval ListComp|CompSrc|setItem ref int|call builtin:sum;T=CompEnd;D=WPost|FPost;NX=eval Name" s
local macro_rules | `(tactic| walk_at "subscriptTail") => `(tactic| (k_here; (with_reducible show wpAny _ _ (subscriptTail (Expr.Name _ _) (Expr.Name _ _) (Value.ref _) (Value.int _ _)) _ _ _); refine nx_stop ?_))
section
variable {w : World} {mean : ExcName → Option Value} {mg mb : Str → Option Value} {base : Heap} {outer : List Env} {g : Heap} {gs : Array GenState} {dr : Drawn} {tk : Nat} {os : OsState} {Q E : Value → Shared → Prop}
theorem c_counted {ha : Addr} {la : Nat → Addr} {hv : Nat → List Value} {hs sc : Nat → List Nat} {fuel : Nat} {wy : Nat → Int} (C : Cx w mean mg mb 4 base outer g) (Xb : (Mine.hd.heap_1 w.params).In base) (Tb : TopH mean mg mb base) (D0 : KtsDicts (outer.filterMap (·.frame)) g)
   (loh : (ha == sysModules) = false) (hd : Heads w g ha la hv (fun i => (hs i).map fun p : Nat => (p : Int))) (K : Cnt hs sc fuel wy) (hfr : ha ∉ outer.filterMap (·.frame))
   (ret : ∀ g₁ h' tk' T ro t c (qs : List (Addr × List Value × Nat)), KtsTurn (outer.filterMap (·.frame)) g g₁ → Keeps g₁ h' → (∀ p ∈ (T, ({ cls := .type "tuple", data := .seq #[.ref ro, .int (wy 6 + wy 7 + wy 8) t] } : Obj)) :: (ro, W.listOf (qs.map fun q => Value.ref q.1).toArray c) :: (qs.map fun q => (q.1, W.listOf q.2.1.toArray q.2.2)), h'.get? p.1 = some p.2 ∧ g.get? p.1 = none) →
     qs.length = 3 → (∀ i q, qs[i]? = some q → IntsAre q.2.1 ((psR i).map fun p : Nat => (p : Int))) → Q (.ref T) ⟨h', gs, dr, tk', os⟩) :
   wpAny (model Challenge.rw_ny0273_01.row.prog w) (AA 4 outer) (call (.ref 244) [.ref ha]) Q E ⟨g, gs, dr, tk, os⟩ := by
  have X := C.X; revert X; k_fill; intro X
  refine wpAny_call ?_
  refine' enterC [(Str.ofString "heads", .ref ha)] C ?ho ?hcd ?hb ?hl ?c4 ?c1 ?c2 ?c3 ?_
  k_dflt ((case ho => k_is); (case hcd => k_is); (case hb => exact BindsTo.of_eq rfl); (case c4 => decide +kernel); (case hl => exact rfl); (case c1 => exact rfl); (case c2 => exact rfl); (case c3 => exact rfl); k_whole)
  intro g' L h1 tk1 cells eg F1 N1 Y1 B1 X1 T1
  obtain rfl : g' = g := eg
  k_cells Y1
  simp only [List.cons_append, List.nil_append] at N1
  (try dsimp only)
  (try k_fold)
  k_steps
  unfold NxStop
  rename Fr _ _ _ _ => F2
  rename News _ _ _ _ => N2
  rename_i oW dW
  refine call_cls F2 X1 N2 (by k_is) (fI := 107) (by k_is) (by k_is) fun S ds h3 F3 N3 l3 lS => ?_
  have lW : @LT.lt Nat _ (L + 1) ds := l3 _ (.head _)
  have N3' : News g' L h3 [(S, instObj 171 ds), (ds, W.dictOf [] 0)] := pickn N3 [0, 1]
  refine code_callT (r := 3) (by omega) ?_
  refine c_initC (mean := mean) (mg := mg) (mb := mb) (base := base) (S := S) (ds := ds) (g₀ := hideAll _ [S, ds]) (la := la) (hv := hv) (hs := hs) rfl (cx_callA rfl B1 X1 T1 F3 N3' rfl rfl) (N3' _ (.head _)).1 (N3' _ (.tail _ (.head _))).1 lS loh (heads_keeps hd (stays_hide F3 N3')) K.len K.less fun a k1 k2 k3 k4 t3 t4 od Wl h4 tk4 eS eds kk4 hh4 hdo M4 lo ld => ?_
  subst eS eds
  refine ⟨rfl, ?_⟩
  have inA : ∀ x ∈ [a.S, a.ds], ∃ o, (x, o) ∈ (a.S, instObj 171 a.ds) :: (a.ds, W.dictOf [] 0) :: [(L + 1, oW)] := all_cons ⟨_, .head _⟩ (all_cons ⟨_, .tail _ (.head _)⟩ all_nil)
  have nW : (L + 1 : Nat) ∉ [a.S, a.ds] := nm (Nat.ne_of_lt (Nat.lt_trans lW lS)) (nm (Nat.ne_of_lt lW) List.not_mem_nil)
  have F4 := fr_hide F3 N3 inA kk4
  have N4 : News g' L h4 ((L + 1, oW) :: (a.S, instObj 171 a.ds) :: (a.ds, sDict w k1 k2 k3 k4 a.d .none 0 t3 0 t4) :: (a.d, od) :: Wl) := news_hide F3 N3 kk4 (all_cons (.inl ⟨.tail _ (.tail _ (.head _)), nW⟩) fun p hp => Stays.hid inA (hh4 p hp))
  have offW : ∀ p ∈ (a.S, instObj 171 a.ds) :: (a.ds, sDict w k1 k2 k3 k4 a.d .none 0 t3 0 t4) :: (a.d, od) :: Wl, p.1 ≠ L + 1 := fun p hp => off_hid N3 (.tail _ (.tail _ (.head _))) nW (hh4 p hp).2
  clear N2 F2 N3 F3 N3'
  k_steps
  unfold NxStop
  rename Fr _ _ _ _ => F5
  rename News _ _ _ _ => N5
  have inB := led_in (a := a) (o1 := instObj 171 a.ds) (o2 := sDict w k1 k2 k3 k4 a.d .none 0 t3 0 t4) (o3 := od) (Wl := Wl) (nw := (L + 1, oW) :: (a.S, instObj 171 a.ds) :: (a.ds, sDict w k1 k2 k3 k4 a.d .none 0 t3 0 t4) :: (a.d, od) :: Wl) fun p hp => .tail _ hp
  have N5' : News g' L _ ((a.S, instObj 171 a.ds) :: (a.ds, sDict w k1 k2 k3 k4 a.d .none 0 t3 0 t4) :: (a.d, od) :: Wl) := fun p hp => N5 p (.tail _ hp)
  have M5 : TsM a 9 (npR hs sc 0) (fun j => (sc j).map fun p : Nat => (p : Int)) Wl := M4.congr (fun _ _ => rfl) K.suc
  refine wp_callG (r := 1) (by omega) ?_
  refine c_prepare (mean := mean) (mg := mg) (mb := mb) (base := base) (a := a) (n := 9) (sc := sc) (fuel := fuel) (g₀ := hideAll _ (a.S :: a.ds :: a.d :: Wl.map (·.1))) rfl (cx_callA rfl B1 X1 T1 F5 N5' rfl rfl) Xb Tb ?DD (N5' _ (.head _)).1 (N5' _ (.tail _ (.head _))).1 (N5' _ (.tail _ (.tail _ (.head _)))).1 (fun p hp => (N5' p (.tail _ (.tail _ (.tail _ hp)))).1) hdo lo ⟨lS, ld⟩ (by omega) M5 K.into K.cyc fun g₁ h6 tk6 ra rs cr hT6 kp6 hh6 hrs ner oWr => ?_
  case DD =>
    refine dicts_push (A := a.S :: a.ds :: a.d :: Wl.map (·.1)) D0 F5 N5 inB ?_
    exact rfl
  obtain ⟨g7, hG7, F7, N7f⟩ := turned (A := a.S :: a.ds :: a.d :: Wl.map (·.1)) B1 Xb Tb D0 F5 N5 inB hT6 kp6 rfl
  have nW5 : (L + 1 : Addr) ∉ a.S :: a.ds :: a.d :: Wl.map (·.1) := nm (Ne.symm (offW _ (.head _))) (nm (Ne.symm (offW _ (.tail _ (.head _)))) (nm (Ne.symm (offW _ (.tail _ (.tail _ (.head _))))) (not_map fun p hp => offW p (.tail _ (.tail _ (.tail _ hp))))))
  have N7 : News g7 L h6 ((L + 1, oW) :: (ra, W.listOf rs.toArray cr) :: (a.S, instObj 171 a.ds) :: (a.ds, sDict w k1 k2 k3 k4 a.d (.ref ra) 0 t3 0 t4) :: (a.d, od) :: Wl) := N7f _ (all_cons (.inl ⟨.head _, nW5⟩) fun p hp => Stays.hid inB (hh6 p hp))
  have offW7 : ∀ p ∈ (ra, W.listOf rs.toArray cr) :: (a.S, instObj 171 a.ds) :: (a.ds, sDict w k1 k2 k3 k4 a.d (.ref ra) 0 t3 0 t4) :: (a.d, od) :: Wl, p.1 ≠ L + 1 := fun p hp => off_hid N5 (.head _) nW5 (hh6 p hp).2
  rw [K.first] at hrs
  obtain ⟨hT7, B7, X7, P7, D7⟩ := id hG7
  have hd7 := heads_turn hd hT7 hfr
  clear N5 F5 N5' B1 X1 T1 hh6 kp6 hT6 N7f hh4 kk4 M4 inB offW inA nW
  k_steps
  unfold NxStop
  rename Fr _ _ _ _ => F8
  rename News _ _ _ _ => N8
  rename Obj.IsDictOf _ _ _ => hdw
  rename_i ro _ lro wd _ oWd lowd _ _ _ lwd T _ lT _ _ _ oC dC
  have N9 : News g7 L _ ((wd, oWd) :: (ro, W.listOf (([] : List (Addr × List Value × Nat)).map fun q => Value.ref q.1).toArray 0) :: (L + 1, oC) :: (ra, W.listOf rs.toArray cr) :: (a.S, instObj 171 a.ds) :: (a.ds, sDict w k1 k2 k3 k4 a.d (.ref ra) (3 * 0 : Nat) t3 (3 * 0 : Nat) t4) :: (a.d, od) :: ([] ++ Wl)) := fun p hp => N8 p (.tail _ hp)
  refine while_ind (fun n m nw => ∃ r, r ≤ 3 ∧ n = 3 - r ∧ CtInv w L a ha wd ro ra od k1 k2 k3 k4 hs sc wy r m nw) ?turn (n := 3) ?hG F8 N9
  case hG =>
    refine ⟨0, by omega, rfl, [], Wl, oWd, oC, rs, cr, 0, t3, t4, fun _ => 0, [], by walk_at "nx_hv", by walk_at "nx_hv", by walk_at "nx_hv", rfl, dC, hdw, hrs, M5, (fun q hq => nomatch hq), rfl, (fun i q hq => by simp at hq), (fun p hp => ?_), (fun p hp => nomatch hp)⟩
    have z := M5.off p hp
    exact ⟨Nat.ne_of_lt (allLt_mem lwd.2.2.2.2.2.2 p hp), Nat.ne_of_lt (allLt_mem lro.2.2.2.2.2 p hp), offW7 p (.tail _ (.tail _ (.tail _ (.tail _ hp)))), oWr p hp, z.1, z.2.1, z.2.2⟩
  case turn =>
    have o1 := offW7 (ra, W.listOf rs.toArray cr) (.head _)
    have o2 := offW7 (a.S, instObj 171 a.ds) (.tail _ (.head _))
    have o3 := offW7 (a.ds, sDict w k1 k2 k3 k4 a.d (.ref ra) 0 t3 0 t4) (.tail _ (.tail _ (.head _)))
    have o4 := offW7 (a.d, od) (.tail _ (.tail _ (.tail _ (.head _))))
    dsimp only at o1 o2 o3 o4
    clear N9 N8 F8 hrs M5 hdw dC offW7 oWr nW5
    let PS : Addr × Obj := (a.S, instObj 171 a.ds)
    let PD : Addr × Obj := (a.d, od)
    let SD : Int → Tok → Int → Tok → Addr × Obj := fun x t y t' => (a.ds, sDict w k1 k2 k3 k4 a.d (.ref ra) x t y t')
    rintro n m nw h tk ⟨r, hr, rfl, Rl, Wl2, oWd, oC, rs, cr, c, t3, t4, tw, qs, m1, m2, m3, rfl, dC, hdw, hrs, M, hqs, hql, hqi, hof, hRW⟩ F8 N8
    replace N8 : News g7 L h ((wd, oWd) :: (ro, W.listOf (qs.map fun q => Value.ref q.1).toArray c) :: (L + 1, oC) :: (ra, W.listOf rs.toArray cr) :: PS :: SD (3 * r : Nat) t3 (3 * r : Nat) t4 :: PD :: (Rl ++ Wl2)) := N8
    k_steps
    unfold NxStop
    rename Fr _ _ _ _ => F9
    rename News _ _ _ _ => N9
    have NA : News g7 L _ [PS, (SD (3 * r : Nat) t3 (3 * r : Nat) t4), (ra, W.listOf rs.toArray cr)] := pickn N9 [4, 5, 3]
    have hrl : rs.length ≤ 3 := by rw [ints_len hrs]; split <;> simp [psR]
    refine wp_callG (r := 0) (by omega) ?_
    refine c_active (mean := mean) (mg := mg) (mb := mb) (base := base) (S := a.S) (ds := a.ds) (ra := ra) (g₀ := hideAll _ [a.S, a.ds, ra]) rfl (cx_callA rfl B7 X7 P7 F9 NA rfl rfl) (NA _ (.head _)).1 (NA _ (.tail _ (.head _))).1 (NA _ (.tail _ (.tail _ (.head _)))).1 ⟨lS, ner.1, ner.2.1⟩ (by omega) fun h10 tk10 k10 => ?_
    have F10 := F9.keeps k10
    have N10 := N9.grown k10
    clear NA N9 F9
    by_cases h3 : r < 3
    · rw [if_pos h3] at hrs
      have hne : rs ≠ [] := fun e => by rw [e] at hrs; unfold psR at hrs; cases hrs
      rw [show (decide (((3 * r : Nat) : Int) < ((3 * r : Nat) : Int)) || !rs.isEmpty) = true by
        cases rs with
        | nil => exact absurd rfl hne
        | cons x y => simp]
      k_steps
      unfold NxStop
      rename Fr _ _ _ _ => F11
      rename News _ _ _ _ => N11
      have hps : ∀ p ∈ psR r, p < 9 := by unfold psR; exact all_cons (by omega) (all_cons (by omega) (all_cons (by omega) all_nil))
      have nA : ∀ {x : Addr}, x ≠ a.S → x ≠ a.ds → x ≠ a.d → x ≠ ra → (∀ q ∈ Wl2, q.1 ≠ x) → x ∉ a.S :: a.ds :: a.d :: ra :: Wl2.map (·.1) := fun h1 h2 h3 h4 h5 => nm h1 (nm h2 (nm h3 (nm h4 (not_map h5))))
      have nA1 := nA (Nat.ne_of_gt lwd.2.2.2.1) (Nat.ne_of_gt lwd.2.2.2.2.1) (Nat.ne_of_gt lwd.2.2.2.2.2.1) (Nat.ne_of_gt lwd.2.2.1) fun q hq => (hof q (List.mem_append_right _ hq)).1
      have nA2 := nA (Nat.ne_of_gt lro.2.2.1) (Nat.ne_of_gt lro.2.2.2.1) (Nat.ne_of_gt lro.2.2.2.2.1) (Nat.ne_of_gt lro.2.1) fun q hq => (hof q (List.mem_append_right _ hq)).2.1
      have nA3 := nA (Ne.symm o2) (Ne.symm o3) (Ne.symm o4) (Ne.symm o1) fun q hq => (hof q (List.mem_append_right _ hq)).2.2.1
      have nA4 : ∀ p ∈ Rl, p.1 ∉ a.S :: a.ds :: a.d :: ra :: Wl2.map (·.1) := fun p hp =>
        have z := hof p (List.mem_append_left _ hp)
        nA z.2.2.2.2.1 z.2.2.2.2.2.1 z.2.2.2.2.2.2 z.2.2.2.1 fun q hq => Ne.symm (hRW p hp q hq)
      have inC : ∀ x ∈ a.S :: a.ds :: a.d :: ra :: Wl2.map (·.1), ∃ o, (x, o) ∈ (wd, oWd) :: (ro, W.listOf (qs.map fun q => Value.ref q.1).toArray c) :: (L + 1, oC) :: (ra, W.listOf rs.toArray cr) :: PS :: (SD (3 * r : Nat) t3 (3 * r : Nat) t4) :: PD :: (Rl ++ Wl2) := all_cons ⟨_, (.tail _ (.tail _ (.tail _ (.tail _ (.head _)))))⟩ (all_cons ⟨_, (.tail _ (.tail _ (.tail _ (.tail _ (.tail _ (.head _))))))⟩ (all_cons ⟨_, (.tail _ (.tail _ (.tail _ (.tail _ (.tail _ (.tail _ (.head _)))))))⟩ (all_cons ⟨_, (.tail _ (.tail _ (.tail _ (.head _))))⟩ (in_map fun p hp => .tail _ (.tail _ (.tail _ (.tail _ (.tail _ (.tail _ (.tail _ (List.mem_append_right _ hp)))))))))))
      have N11' : News g7 L _ (PS :: (SD (3 * r : Nat) t3 (3 * r : Nat) t4) :: PD :: (ra, W.listOf rs.toArray cr) :: Wl2) := all_cons (N11 _ (.tail _ (.tail _ (.tail _ (.tail _ (.head _)))))) (all_cons (N11 _ (.tail _ (.tail _ (.tail _ (.tail _ (.tail _ (.head _))))))) (all_cons (N11 _ (.tail _ (.tail _ (.tail _ (.tail _ (.tail _ (.tail _ (.head _)))))))) (all_cons (N11 _ (.tail _ (.tail _ (.tail _ (.head _))))) fun p hp => N11 p (.tail _ (.tail _ (.tail _ (.tail _ (.tail _ (.tail _ (.tail _ (List.mem_append_right _ hp)))))))))))
      refine wp_callG (r := 0) (by omega) ?_
      refine c_ready (mean := mean) (mg := mg) (mb := mb) (base := base) (a := a) (n := 9) (np := npR hs sc r) (Wl := Wl2) (ps := psR r) (ra := ra) (g₀ := hideAll _ (a.S :: a.ds :: a.d :: ra :: Wl2.map (·.1))) rfl (cx_callA rfl B7 X7 P7 F11 N11' rfl rfl) (N11' _ (.head _)).1 (N11' _ (.tail _ (.head _))).1 (N11' _ (.tail _ (.tail _ (.head _)))).1 (N11' _ (.tail _ (.tail _ (.tail _ (.head _))))).1 (fun p hp => (N11' p (.tail _ (.tail _ (.tail _ (.tail _ hp))))).1) hdo lo ⟨lS, ld, ner.1, ner.2.1, ner.2.2⟩ (by omega) M (fun p hp => (hof p (List.mem_append_right _ hp)).2.2.2.1) hrs hps (by omega) hne fun D t3' Wl3 h12 tk12 kk12 hh12 M12 oWr12 => ?_
      have F12 := fr_hide F11 N11 inC kk12
      have N12 : News g7 L h12 ((D, ({ cls := .type "tuple", data := .seq rs.toArray } : Obj)) :: (wd, oWd) :: (ro, W.listOf (qs.map fun q => Value.ref q.1).toArray c) :: (L + 1, oC) :: (ra, W.listOf #[] (cr + 1)) :: PS :: (SD ((3 * r : Nat) + rs.length) t3' (3 * r : Nat) t4) :: PD :: (Rl ++ Wl3)) := news_hide F11 N11 kk12 (all_cons (Stays.hid inC (hh12 _ (.head _))) (all_cons (.inl ⟨(.head _), nA1⟩) (all_cons (.inl ⟨(.tail _ (.head _)), nA2⟩) (all_cons (.inl ⟨(.tail _ (.tail _ (.head _))), nA3⟩) (all_cons (Stays.hid inC (hh12 _ (.tail _ (.tail _ (.tail _ (.tail _ (.head _))))))) (all_cons (Stays.hid inC (hh12 _ (.tail _ (.head _)))) (all_cons (Stays.hid inC (hh12 _ (.tail _ (.tail _ (.head _))))) (all_cons (Stays.hid inC (hh12 _ (.tail _ (.tail _ (.tail _ (.head _)))))) (all_app (fun p hp => .inl ⟨(.tail _ (.tail _ (.tail _ (.tail _ (.tail _ (.tail _ (.tail _ (List.mem_append_left _ hp)))))))), nA4 p hp⟩) fun p hp => Stays.hid inC (hh12 p (.tail _ (.tail _ (.tail _ (.tail _ (.tail _ (hp))))))))))))))))
      have of12 : ∀ p ∈ Rl ++ Wl3, p.1 ≠ wd ∧ p.1 ≠ ro ∧ p.1 ≠ L + 1 ∧ p.1 ≠ ra ∧ p.1 ≠ a.S ∧ p.1 ≠ a.ds ∧ p.1 ≠ a.d := all_app (fun p hp => hof p (List.mem_append_left _ hp)) fun p hp =>
        have z := (hh12 p (.tail _ (.tail _ (.tail _ (.tail _ (.tail _ hp)))))).2
        ⟨off_hid N11 (.head _) nA1 z, off_hid N11 (.tail _ (.head _)) nA2 z, off_hid N11 (.tail _ (.tail _ (.head _))) nA3 z, oWr12 p hp, M12.off p hp⟩
      have hRW12 : ∀ p ∈ Rl, ∀ q ∈ Wl3, p.1 ≠ q.1 := fun p hp q hq => Ne.symm (off_hid N11 (.tail _ (.tail _ (.tail _ (.tail _ (.tail _ (.tail _ (.tail _ (List.mem_append_left _ hp)))))))) (nA4 p hp) (hh12 q (.tail _ (.tail _ (.tail _ (.tail _ (.tail _ hq)))))).2)
      have D1 : @Ne Nat D wd := off_hid N11 (.head _) nA1 (hh12 _ (.head _)).2
      have D2 : @Ne Nat D ro := off_hid N11 (.tail _ (.head _)) nA2 (hh12 _ (.head _)).2
      have D3 : @Ne Nat D (L + 1) := off_hid N11 (.tail _ (.tail _ (.head _))) nA3 (hh12 _ (.head _)).2
      obtain ⟨u0, u1, u2, rfl⟩ : ∃ u0 u1 u2, rs = [.int (3 * r : Nat) u0, .int (3 * r + 1 : Nat) u1, .int (3 * r + 2 : Nat) u2] := by
        cases hrs with | cons _ u0 h => cases h with | cons _ u1 h => cases h with | cons _ u2 h => cases h; exact ⟨u0, u1, u2, rfl⟩
      clear N11 F11 N11' inC nA nA1 nA2 nA3 nA4 hh12 kk12 hof hRW M
      k_steps
      unfold NxStop
      rename Fr _ _ _ _ => F13
      rename News _ _ _ _ => N13
      refine sorted_tup F13 N13 (.head _) hrs (by unfold psR; simp) (by unfold psR; simp; omega) fun Q1 vs1 c1 h14 F14 N14 l14 hvs1 => ?_
      k_steps
      unfold NxStop
      rename Fr _ _ _ _ => F15
      rename News _ _ _ _ => N15
      have of12r : ∀ p ∈ Rl ++ Wl3, p.1 ≠ ro := fun p hp => (of12 p hp).2.1
      refine append_K F15 N15 (.tail (Nat.ne_of_gt (l14 _ (.tail _ (.tail _ (.head _))))) (.tail D2 (.tail (neN (by (try dsimp only); omega)) (.head (off_cons (neN (by (try dsimp only); omega)) (off_cons (neN (by (try dsimp only); omega)) (off_cons (neN (by (try dsimp only); omega)) (off_cons (neN (by (try dsimp only); omega)) (off_cons (neN (by (try dsimp only); omega)) of12r))))))))) (fun h16 F16 N16 => ?_) (by simp [sizeLine_eq]; omega)
      k_steps
      unfold NxStop
      rename Fr _ _ _ _ => F17
      rename News _ _ _ _ => N17
      obtain ⟨BL, hBL⟩ : ∃ BL, BL = (Q1, W.listOf vs1.toArray c1) :: (D, ({ cls := .type "tuple", data := .seq [Value.int (3 * r : Nat) u0, .int (3 * r + 1 : Nat) u1, .int (3 * r + 2 : Nat) u2].toArray } : Obj)) :: (ro, W.listOf ((qs.map fun q => Value.ref q.1).toArray.push (.ref Q1)) (c + 1)) :: (L + 1, oC) :: (ra, W.listOf #[] (cr + 1)) :: PS :: (SD ((3 * r : Nat) + [Value.int (3 * r : Nat) u0, .int (3 * r + 1 : Nat) u1, .int (3 * r + 2 : Nat) u2].length) t3' (3 * r : Nat) t4) :: PD :: (Rl ++ Wl3) := ⟨_, rfl⟩
      have N18 : News g7 L h16 ((wd, oWd) :: BL) := by
        rw [hBL]
        exact pick N17 [2, 0, 1, 3, 4, 5, 6, 7, 8] 9
      have offB : ∀ p ∈ BL, p.1 ≠ wd := by
        rw [hBL]
        exact off_cons (Nat.ne_of_gt (l14 _ (.tail _ (.head _)))) (off_cons D1 (off_cons (neN (by (try dsimp only); omega)) (off_cons (neN (by (try dsimp only); omega)) (off_cons (neN (by (try dsimp only); omega)) (off_cons (neN (by (try dsimp only); omega)) (off_cons (neN (by (try dsimp only); omega)) (off_cons (neN (by (try dsimp only); omega)) fun p hp => (of12 p hp).1)))))))
      have hDB : (D, ({ cls := .type "tuple", data := .seq [Value.int (3 * r : Nat) u0, .int (3 * r + 1 : Nat) u1, .int (3 * r + 2 : Nat) u2].toArray } : Obj)) ∈ BL := by rw [hBL]; exact .tail _ (.head _)
      have hCB : (L + 1, oC) ∈ BL := by rw [hBL]; exact .tail _ (.tail _ (.tail _ (.head _)))
      have hLwd : @LT.lt Nat _ (L + 1) wd := lwd.2.1
      clear N17
      refine for_tup (h₀ := g7) (L := L) (its := [Value.int (3 * r : Nat) u0, .int (3 * r + 1 : Nat) u1, .int (3 * r + 2 : Nat) u2].toArray) rfl (fun _ => rfl) (fun i m' nw => ∃ (oWd' : Obj) (tw' : Nat → Tok), m' (Str.ofString "sorter") = some (.ref a.S) ∧ m' (Str.ofString "rounds") = some (.ref ro) ∧ m' (Str.ofString "heads") = some (.ref ha) ∧ m' (Str.ofString "ready") = some (.ref D) ∧ nw = (wd, oWd') :: BL ∧ oWd'.IsDictOf (intKind Challenge.rw_ny0273_01.row.prog w) ((List.range (3 * r + i)).map fun j : Nat => ((j : Int), Value.int (wy j) (tw' j)))) ?_
      k_steps
      unfold NxStop
      rename Fr _ _ _ _ => F19
      rename News _ _ _ _ => N19
      refine ⟨_, _, _, rfl, F19, N19, ?g0, fun _ _ _ hG => ?gm, fun gg => ⟨?trn, ?fin⟩⟩
      case g0 => exact ⟨oWd, tw, by walk_at "nx_hv", by walk_at "nx_hv", by walk_at "nx_hv", by walk_at "nx_hv", rfl, hdw⟩
      case gm => obtain ⟨_, _, _, _, _, _, e, _⟩ := hG; rw [e]; exact .tail _ hDB
      case fin =>
        rintro m' nw h tk ⟨oWd', tw', m1', m2', m3', m4', rfl, hdw'⟩ F20 N20
        subst hBL
        have hdw3 : oWd'.IsDictOf (intKind Challenge.rw_ny0273_01.row.prog w) ((List.range (3 * (r + 1))).map fun j : Nat => ((j : Int), Value.int (wy j) (tw' j))) := hdw'
        k_steps
        refine method_star ?_
        k_steps
        rename Fr _ _ _ _ => F21
        rename News _ _ _ _ => N21
        refine callWith_M1 (K := Mine.hd.heap_1 w.params) (f := 154) (self := .ref a.S) (by k_is) ?_
        k_steps
        unfold NxStop
        rename Fr _ _ _ _ => F22
        rename News _ _ _ _ => N22
        have q13 : ∀ q ∈ Rl ++ Wl3, @LT.lt Nat _ q.1 Q1 := fun q hq => l14 q (.tail _ (.tail _ (.tail _ (.tail _ (.tail _ (.tail _ (.tail _ (.tail _ hq))))))))
        have q1 : @LT.lt Nat _ wd Q1 := l14 _ (.tail _ (.head _))
        have q2 : @LT.lt Nat _ ro Q1 := l14 _ (.tail _ (.tail _ (.head _)))
        have q3 : @LT.lt Nat _ (L + 1) Q1 := l14 _ (.tail _ (.tail _ (.tail _ (.head _))))
        have q4 : @LT.lt Nat _ ra Q1 := l14 _ (.tail _ (.tail _ (.tail _ (.tail _ (.head _)))))
        have q5 : @LT.lt Nat _ a.S Q1 := l14 _ (.tail _ (.tail _ (.tail _ (.tail _ (.tail _ (.head _))))))
        have q6 : @LT.lt Nat _ a.ds Q1 := l14 _ (.tail _ (.tail _ (.tail _ (.tail _ (.tail _ (.tail _ (.head _)))))))
        have q7 : @LT.lt Nat _ a.d Q1 := l14 _ (.tail _ (.tail _ (.tail _ (.tail _ (.tail _ (.tail _ (.tail _ (.head _))))))))
        refine call_meth N22 (.head _) ?_
        have N23 : News g7 L _ ((wd, oWd') :: (Q1, W.listOf vs1.toArray c1) :: (ro, W.listOf ((qs.map fun q => Value.ref q.1).toArray.push (.ref Q1)) (c + 1)) :: (L + 1, oC) :: (ra, W.listOf ([] : List Value).toArray (cr + 1)) :: PS :: (SD ((3 * r : Nat) + [Value.int (3 * r : Nat) u0, .int (3 * r + 1 : Nat) u1, .int (3 * r + 2 : Nat) u2].length) t3' (3 * r : Nat) t4) :: PD :: (Rl ++ Wl3)) := pick N22 [1, 2, 4, 5, 6, 7, 8, 9] 10
        have N24 : News g7 L _ (PS :: (SD ((3 * r : Nat) + [Value.int (3 * r : Nat) u0, .int (3 * r + 1 : Nat) u1, .int (3 * r + 2 : Nat) u2].length) t3' (3 * r : Nat) t4) :: PD :: (ra, W.listOf ([] : List Value).toArray (cr + 1)) :: Wl3) := all_cons (N23 _ (.tail _ (.tail _ (.tail _ (.tail _ (.tail _ (.head _))))))) (all_cons (N23 _ (.tail _ (.tail _ (.tail _ (.tail _ (.tail _ (.tail _ (.head _)))))))) (all_cons (N23 _ (.tail _ (.tail _ (.tail _ (.tail _ (.tail _ (.tail _ (.tail _ (.head _))))))))) (all_cons (N23 _ (.tail _ (.tail _ (.tail _ (.tail _ (.head _)))))) (fun p hp => N23 p (.tail _ (.tail _ (.tail _ (.tail _ (.tail _ (.tail _ (.tail _ (.tail _ (List.mem_append_right _ hp)))))))))))))
        clear N22
        have nA : ∀ {x : Addr}, x ≠ a.S → x ≠ a.ds → x ≠ a.d → x ≠ ra → (∀ q ∈ Wl3, q.1 ≠ x) → x ∉ a.S :: a.ds :: a.d :: ra :: Wl3.map (·.1) := fun h1 h2 h3 h4 h5 => nm h1 (nm h2 (nm h3 (nm h4 (not_map h5))))
        have nA1 := nA (Nat.ne_of_gt lwd.2.2.2.1) (Nat.ne_of_gt lwd.2.2.2.2.1) (Nat.ne_of_gt lwd.2.2.2.2.2.1) (Nat.ne_of_gt lwd.2.2.1) fun q hq => (of12 q (List.mem_append_right _ hq)).1
        have nA2 := nA (Nat.ne_of_gt lro.2.2.1) (Nat.ne_of_gt lro.2.2.2.1) (Nat.ne_of_gt lro.2.2.2.2.1) (Nat.ne_of_gt lro.2.1) fun q hq => (of12 q (List.mem_append_right _ hq)).2.1
        have nA3 := nA (Ne.symm o2) (Ne.symm o3) (Ne.symm o4) (Ne.symm o1) fun q hq => (of12 q (List.mem_append_right _ hq)).2.2.1
        have nA5 := nA (Nat.ne_of_gt q5) (Nat.ne_of_gt q6) (Nat.ne_of_gt q7) (Nat.ne_of_gt q4) fun q hq => Nat.ne_of_lt (q13 q (List.mem_append_right _ hq))
        have nA4 : ∀ p ∈ Rl, p.1 ∉ a.S :: a.ds :: a.d :: ra :: Wl3.map (·.1) := fun p hp =>
          have z := of12 p (List.mem_append_left _ hp)
          nA z.2.2.2.2.1 z.2.2.2.2.2.1 z.2.2.2.2.2.2 z.2.2.2.1 fun q hq => Ne.symm (hRW12 p hp q hq)
        have inD : ∀ x ∈ a.S :: a.ds :: a.d :: ra :: Wl3.map (·.1), ∃ o, (x, o) ∈ (wd, oWd') :: (Q1, W.listOf vs1.toArray c1) :: (ro, W.listOf ((qs.map fun q => Value.ref q.1).toArray.push (.ref Q1)) (c + 1)) :: (L + 1, oC) :: (ra, W.listOf ([] : List Value).toArray (cr + 1)) :: PS :: (SD ((3 * r : Nat) + [Value.int (3 * r : Nat) u0, .int (3 * r + 1 : Nat) u1, .int (3 * r + 2 : Nat) u2].length) t3' (3 * r : Nat) t4) :: PD :: (Rl ++ Wl3) := all_cons ⟨_, (.tail _ (.tail _ (.tail _ (.tail _ (.tail _ (.head _))))))⟩ (all_cons ⟨_, (.tail _ (.tail _ (.tail _ (.tail _ (.tail _ (.tail _ (.head _)))))))⟩ (all_cons ⟨_, (.tail _ (.tail _ (.tail _ (.tail _ (.tail _ (.tail _ (.tail _ (.head _))))))))⟩ (all_cons ⟨_, (.tail _ (.tail _ (.tail _ (.tail _ (.head _)))))⟩ (in_map fun p hp => (.tail _ (.tail _ (.tail _ (.tail _ (.tail _ (.tail _ (.tail _ (.tail _ (List.mem_append_right _ hp)))))))))))))
        refine code_callG (r := 0) (by omega) ?_
        refine c_doneC (mean := mean) (mg := mg) (mb := mb) (base := base) (a := a) (n := 9) (np := outNp (-1) (psR r) (npR hs sc r)) (sc := sc) (Wl := Wl3) (rs := []) (rd := []) (c := cr + 1) (vs := [Value.int (3 * r : Nat) u0, .int (3 * r + 1 : Nat) u1, .int (3 * r + 2 : Nat) u2]) (ps := psR r) (ra := ra) (g₀ := hideAll _ (a.S :: a.ds :: a.d :: ra :: Wl3.map (·.1))) rfl (cx_callA rfl B7 X7 P7 F22 N24 rfl rfl) (N24 _ (.head _)).1 (N24 _ (.tail _ (.head _))).1 (N24 _ (.tail _ (.tail _ (.head _)))).1 (N24 _ (.tail _ (.tail _ (.tail _ (.head _))))).1 .nil (fun p hp => (N24 p (.tail _ (.tail _ (.tail _ (.tail _ hp))))).1) hdo lo ⟨lS, ld, ner.1, ner.2.1, ner.2.2⟩ (by omega) M12 (fun p hp => oWr12 p hp) hrs hps (by simp) K.into ?hout K.nine (by simp) fun rs' c' t4' Wl4 h25 tk25 kk25 hh25 hrs' M25 oWr25 => ?_
        case hout =>
          intro k p hk
          obtain ⟨hk3, rfl⟩ : k < 3 ∧ p = 3 * r + k := by
            unfold psR at hk
            match k, hk with
            | 0, hk => injection hk with hk; exact ⟨by omega, hk.symm⟩
            | 1, hk => injection hk with hk; exact ⟨by omega, hk.symm⟩
            | 2, hk => injection hk with hk; exact ⟨by omega, hk.symm⟩
            | k + 3, hk => simp at hk
          exact K.out r h3 k hk3
        have e3 : ((3 * r : Nat) : Int) + (([Value.int (3 * r : Nat) u0, .int (3 * r + 1 : Nat) u1, .int (3 * r + 2 : Nat) u2] : List Value).length : Int) = ((3 * (r + 1) : Nat) : Int) := by
          simp only [List.length_cons, List.length_nil]; omega
        rw [e3] at hh25
        have F25 := fr_hide F22 N23 inD kk25
        have eq5 : ((qs.map fun q => Value.ref q.1).toArray.push (.ref Q1)) = ((qs ++ [(Q1, vs1, c1)]).map fun q => Value.ref q.1).toArray := by simp
        have N25 : News g7 L h25 ((wd, oWd') :: (ro, W.listOf ((qs ++ [(Q1, vs1, c1)]).map fun q => Value.ref q.1).toArray (c + 1)) :: (L + 1, oC) :: (ra, W.listOf rs'.toArray c') :: PS :: (SD (3 * (r + 1) : Nat) t3' (3 * (r + 1) : Nat) t4') :: PD :: (((Q1, W.listOf vs1.toArray c1) :: Rl) ++ Wl4)) := by
          rw [← eq5]
          exact news_hide F22 N23 kk25 (all_cons (.inl ⟨(.head _), nA1⟩) (all_cons (.inl ⟨(.tail _ (.tail _ (.head _))), nA2⟩) (all_cons (.inl ⟨(.tail _ (.tail _ (.tail _ (.head _)))), nA3⟩) (all_cons (Stays.hid inD (hh25 _ (.tail _ (.tail _ (.tail _ (.head _)))))) (all_cons (Stays.hid inD (hh25 _ (.head _))) (all_cons (Stays.hid inD (hh25 _ (.tail _ (.head _)))) (all_cons (Stays.hid inD (hh25 _ (.tail _ (.tail _ (.head _))))) (all_cons (.inl ⟨(.tail _ (.head _)), nA5⟩) (all_app (fun p hp => .inl ⟨(.tail _ (.tail _ (.tail _ (.tail _ (.tail _ (.tail _ (.tail _ (.tail _ (List.mem_append_left _ hp))))))))), nA4 p hp⟩) fun p hp => Stays.hid inD (hh25 p (.tail _ (.tail _ (.tail _ (.tail _ (hp)))))))))))))))
        have ne25 := fun (p : Addr × Obj) (hp : p ∈ Wl4) => (hh25 p (.tail _ (.tail _ (.tail _ (.tail _ (hp)))))).2
        have hIn : IntsAre rs' (if r + 1 < 3 then (psR (r + 1)).map fun p : Nat => (p : Int) else []) := by
          rw [K.next r h3] at hrs'
          by_cases h4 : r < 2
          · rw [if_pos h4] at hrs'; rw [if_pos (by omega)]; exact hrs'
          · rw [if_neg h4] at hrs'; rw [if_neg (by omega)]; exact hrs'
        have z1 : ∀ p ∈ Wl4, p.1 ≠ wd ∧ p.1 ≠ ro ∧ p.1 ≠ L + 1 ∧ p.1 ≠ ra ∧ p.1 ≠ a.S ∧ p.1 ≠ a.ds ∧ p.1 ≠ a.d := fun p hp => ⟨off_hid N23 (.head _) nA1 (ne25 p hp), off_hid N23 (.tail _ (.tail _ (.head _))) nA2 (ne25 p hp), off_hid N23 (.tail _ (.tail _ (.tail _ (.head _)))) nA3 (ne25 p hp), oWr25 p hp, M25.off p hp⟩
        have z2 : ∀ q ∈ Wl4, Q1 ≠ q.1 := fun q hq => Ne.symm (off_hid N23 (.tail _ (.head _)) nA5 (ne25 q hq))
        have z3 : ∀ p ∈ Rl, ∀ q ∈ Wl4, p.1 ≠ q.1 := fun p hp q hq => Ne.symm (off_hid N23 (.tail _ (.tail _ (.tail _ (.tail _ (.tail _ (.tail _ (.tail _ (.tail _ (List.mem_append_left _ hp))))))))) (nA4 p hp) (ne25 q hq))
        clear N23 N24 hh25 kk25 nA nA1 nA2 nA3 nA4 nA5 inD ne25
        k_steps
        refine WEnd.intro F25 N25 (k := 3 - (r + 1)) (by omega) ⟨r + 1, by omega, rfl, (Q1, W.listOf vs1.toArray c1) :: Rl, Wl4, oWd', oC, rs', c', c + 1, t3', t4', tw', qs ++ [(Q1, vs1, c1)], m1', m2', m3', rfl, dC, hdw3, hIn, M25, fun q hq => ?x1, by simp [hql], fun k q hq => ?x2, fun p hp => ?x3, fun p hp q hq => ?x4⟩
        case x1 =>
          rcases List.mem_append.mp hq with e | e
          · exact .tail _ (hqs q e)
          · rw [List.mem_singleton.mp e]; exact .head _
        case x2 =>
          by_cases hk : k < qs.length
          · rw [List.getElem?_append_left hk] at hq; exact hqi k q hq
          · rw [List.getElem?_append_right (by omega)] at hq
            obtain rfl : k = r := by
              have := (List.getElem?_eq_some_iff.mp hq).1
              simp at this; omega
            rw [hql, Nat.sub_self] at hq
            injection hq with hq
            rw [← hq]; exact hvs1
        case x3 =>
          rcases List.mem_append.mp hp with hp | hp
          · rcases List.mem_cons.mp hp with e | e
            · rw [e]; exact ⟨Nat.ne_of_gt q1, Nat.ne_of_gt q2, Nat.ne_of_gt q3, Nat.ne_of_gt q4, Nat.ne_of_gt q5, Nat.ne_of_gt q6, Nat.ne_of_gt q7⟩
            · exact of12 p (List.mem_append_left _ e)
          · exact z1 p hp
        case x4 =>
          rcases List.mem_cons.mp hp with e | e
          · rw [e]; exact z2 q hq
          · exact z3 p e q hq
      case trn =>
        rintro I i v m' nw oI h tk hi ⟨oWd', tw', m1', m2', m3', m4', rfl, hdw'⟩ F20 N20 off20
        obtain ⟨ti, hi3, rfl⟩ : ∃ ti, i < 3 ∧ v = .int ((3 * r + i : Nat) : Int) ti := by
          have hlt : i < 3 := by
            have := (Array.getElem?_eq_some_iff.mp hi).1
            simpa using this
          obtain rfl | rfl | rfl : i = 0 ∨ i = 1 ∨ i = 2 := by omega
          · injection hi with hi; exact ⟨u0, by omega, hi.symm⟩
          · injection hi with hi; exact ⟨u1, by omega, hi.symm⟩
          · injection hi with hi; exact ⟨u2, by omega, hi.symm⟩
        have oI1 : @Ne Nat I wd := Ne.symm (off20 _ (.head _))
        have fin : ∀ {h' : Heap} {m' : Loc} {tk' : Nat} {oW2 : Obj} {x : Int} {t : Tok}, Fr g7 L h' m' → News g7 L h' ((I, oI) :: (wd, oW2) :: BL) → oW2.IsDictOf (intKind Challenge.rw_ny0273_01.row.prog w) (stored ((List.range (3 * r + i)).map fun j : Nat => ((j : Int), Value.int (wy j) (tw' j))) ((3 * r + i : Nat) : Int) (.int x t)) → x = wy (3 * r + i) →
            m' (Str.ofString "sorter") = some (.ref a.S) → m' (Str.ofString "rounds") = some (.ref ro) → m' (Str.ofString "heads") = some (.ref ha) → m' (Str.ofString "ready") = some (.ref D) → ∀ s : Shared,
            FEnd g7 L s I oI (fun m' nw => ∃ (oWd' : Obj) (tw' : Nat → Tok), m' (Str.ofString "sorter") = some (.ref a.S) ∧ m' (Str.ofString "rounds") = some (.ref ro) ∧ m' (Str.ofString "heads") = some (.ref ha) ∧ m' (Str.ofString "ready") = some (.ref D) ∧ nw = (wd, oWd') :: BL ∧ oWd'.IsDictOf (intKind Challenge.rw_ny0273_01.row.prog w) ((List.range (3 * r + (i + 1))).map fun j : Nat => ((j : Int), Value.int (wy j) (tw' j)))) { s with heap := h', toks := tk' } := by
          intro h' m' tk' oW2 x t F' N' hd' hx q1 q2 q3 q4 s
          rw [ways_set hx] at hd'
          exact FEnd.intro F' N' _ (fun p hp => hp) (off_cons (Ne.symm oI1) fun p hp => off20 p (.tail _ hp)) ⟨oW2, _, q1, q2, q3, q4, rfl, hd'⟩
        have hsz : ((List.range (3 * r + i)).map fun j : Nat => ((j : Int), Value.int (wy j) (tw' j))).length ≤ sizeLine := by rw [sizeLine_eq]; simp; omega
        k_steps
        · unfold NxStop
          rename 2 < ((3 * r + i : Nat) : Int) => h2
          rename Fr _ _ _ _ => F21
          rename News _ _ _ _ => N21
          refine LCg.ListComp_U F21 (by rfl) (by decide) (by rfl) (by decide) (by rfl) ?_
          k_steps
          unfold NxStop
          rename Fr _ _ _ _ => F22
          have hj9 : 3 * r + i < 9 := by omega
          refine sub_dict F22.keep hd7.dict (v := .ref (la (3 * r + i))) (value_range (3 * r + i) hj9) ?_
          k_steps
          unfold NxStop
          rename Fr _ _ _ _ => F23
          rename News _ _ _ _ => N23
          have hvl : (hv (3 * r + i)).length = (hs (3 * r + i)).length := by rw [ints_len (hd7.list _ hj9).2, List.length_map]
          have hl3 := K.len _ hj9
          refine CompSrc.base rfl F23 N23 (hd7.list _ hj9).1 (by rw [List.size_toArray, sizeLine_eq]; omega) fun g1 => ?_
          refine comp_ind (fun k ys nw => nw = (I, oI) :: (wd, oWd') :: BL ∧ IntsAre ys (((hs (3 * r + i)).take k).map wy)) (hv (3 * r + i)).length ?turn ?fin _ 0 [] _ (by simp) ⟨rfl, .nil⟩
          case turn =>
            rintro k ys nw v I2 oI2 C2 oC2 D4 m₂ h24 tk24 E2 hk ⟨rfl, hys⟩ hP hC hx F24 N24 off24 ne24
            obtain ⟨p, tp, hpk, rfl⟩ : ∃ p tp, (hs (3 * r + i))[k]? = some p ∧ v = .int (p : Int) tp := by
              obtain ⟨x, tx, h1, h2⟩ := ints_get (hd7.list _ hj9).2 (by simpa using hP)
              rw [List.getElem?_map, Option.map_eq_some_iff] at h1
              obtain ⟨p, h3, h4⟩ := h1
              exact ⟨p, tx, h3, by rw [h2, h4]⟩
            have hpl := K.less _ hj9 p (List.mem_of_getElem? hpk)
            k_steps
            unfold NxStop
            rename Fr _ _ _ _ => F25
            rename News _ _ _ _ => N25
            refine kdt_tail N25 (.tail _ (.tail _ (.tail _ (.tail _ (.head _))))) hdw' (kdt_getItem N25 (.tail _ (.tail _ (.tail _ (.tail _ (.head _))))) hdw' (intKind_is _ _ _ _) (ways_some hpl) ?_)
            k_steps
            unfold NxStop
            rename Fr _ _ _ _ => F26
            rename News _ _ _ _ => N26
            exact CompEnd.intro F26 N26 _ (fun p hp => hp) off24 (.inl (hd7.list _ hj9).1) ⟨rfl, by rw [List.take_add_one, hpk, List.map_append]; exact ints_snoc hys⟩
          case fin =>
            rintro ys nw ⟨rfl, hys⟩
            intro D4 h24 tk24 F24 N24 off24
            rw [hvl, List.take_length] at hys
            k_steps
            unfold NxStop
            rename Fr _ _ _ _ => F25
            rename News _ _ _ _ => N25
            refine sumK rfl F25 N25 (PySem.IsL.isList (n := ys.length) (N25 _ (.head _)).1) hys fun h26 tk26 t26 F26 N26 => ?_
            k_steps
            unfold NxStop
            rename Fr _ _ _ _ => F27
            rename News _ _ _ _ => N27
            refine kda_set F27 N27 (.tail (Ne.symm off24.2.1) (.tail oI1 (.head offB))) hdw' (intKind_is _ _ _ _) hsz fun h28 oW2 F28 N28 hd28 => ?_
            k_steps
            exact fin F28 (fun p hp => N28 p (.tail _ hp)) hd28 (K.sum _ (by omega) hj9).symm (by walk_at "nx_hv") (by walk_at "nx_hv") (by walk_at "nx_hv") (by walk_at "nx_hv") _
        · unfold NxStop
          rename ¬ 2 < ((3 * r + i : Nat) : Int) => h2
          rename Fr _ _ _ _ => F21
          rename News _ _ _ _ => N21
          refine kda_set F21 N21 (.tail oI1 (.head offB)) hdw' (intKind_is _ _ _ _) hsz fun h22 oW2 F22 N22 hd22 => ?_
          k_steps
          exact fin F22 N22 hd22 (K.one _ (by omega)).symm (by walk_at "nx_hv") (by walk_at "nx_hv") (by walk_at "nx_hv") (by walk_at "nx_hv") _
    · obtain rfl : r = 3 := by omega
      rw [if_neg h3] at hrs
      obtain rfl : rs = [] := by cases hrs; rfl
      rw [show (decide (((3 * 3 : Nat) : Int) < ((3 * 3 : Nat) : Int)) || !([] : List Value).isEmpty) = false by decide]
      k_steps
      rename Fr _ _ _ _ => F11
      rename News _ _ _ _ => N11
      refine ret g7 _ _ _ ro (tk10 + 1 + 1 + 1 + 1 + 1 + 1 + 1) c qs hT7 F11.keep (fun p hp => ?_) hql hqi
      have gn : ∀ {b : Addr}, g7.get? b = none → g'.get? b = none := fun {b} e => by
        cases q : g'.get? b with
        | none => rfl
        | some o => obtain ⟨sl, hs⟩ := hT7.up q; rw [e] at hs; cases hs
      rcases List.mem_cons.mp hp with e | hp
      · rw [e]; exact ⟨(N11 _ (.head _)).1, gn (N11 _ (.head _)).2.2⟩
      · rcases List.mem_cons.mp hp with e | hp
        · rw [e]; exact ⟨(N11 _ (.tail _ (.tail _ (.head _)))).1, gn (N11 _ (.tail _ (.tail _ (.head _)))).2.2⟩
        · obtain ⟨q, hq, rfl⟩ := List.mem_map.mp hp
          have hm := List.mem_append_left Wl2 (hqs q hq)
          have z := N11 _ (.tail _ (.tail _ (.tail _ (.tail _ (.tail _ (.tail _ (.tail _ (.tail _ hm))))))))
          exact ⟨z.1, gn z.2.2⟩
end
end Mine
end
section
open PySem PySem.W PyProof.Rows
theorem Mine.anew19 {M : Model} {A : Around} {env : Env} {Q : Flow → Shared → Prop} {E : Value → Shared → Prop} {s : Shared} (h : wpAny M A (execs [] env) Q E s) : wpAny M A (execs [] env) Q E s := by first | (walk1; done) | exact h
end
section
open PySem PySem.W PyProof.Rows PySem.Calls PyProof.Rows.LCg
set_option maxHeartbeats 4000000
namespace Mine
/-- the table of heads by whether the two middle rows are empty -/
noncomputable def hsB (b1 b2 : Bool) (n : Nat) : List Nat := if n < 3 then [] else ((List.range 3).filter fun k => !((if n / 3 = 1 then b1 else b2) && (k == 0 && n % 3 == 1))).map fun k => 3 * (n / 3) - 3 + k
noncomputable def scB (b1 b2 : Bool) (n : Nat) : List Nat := if n = 0 then (if b1 then [3, 5] else [3, 4, 5]) else if n < 3 then [3, 4, 5] else if n = 3 then (if b2 then [6, 8] else [6, 7, 8]) else if n < 6 then [6, 7, 8] else []
noncomputable def wyB (b1 b2 : Bool) (n : Nat) : Int := if n < 3 then 1 else if n < 6 then (if n = 4 ∧ b1 = true then 2 else 3) else (if b1 then 8 else 9) - (if n = 7 ∧ b2 = true then 3 else 0)
theorem scB_len (b1 b2 : Bool) (p : Nat) : (scB b1 b2 p).length ≤ 9 := by
  unfold scB
  cases b1 <;> cases b2 <;> (repeat' split) <;> simp
theorem cntB (b1 b2 : Bool) : Cnt (hsB b1 b2) (scB b1 b2) 60 (wyB b1 b2) := by
  have wy_sum : ∀ j, j < 9 → 3 ≤ j → wyB b1 b2 j = ((hsB b1 b2 j).map (wyB b1 b2)).sum := by cases b1 <;> cases b2 <;> decide +kernel
  cases b1 <;> cases b2
  all_goals exact ⟨by decide +kernel, by decide +kernel, by decide +kernel, by decide +kernel, scB_len _ _, by decide +kernel, by decide +kernel, by decide +kernel, by decide +kernel, by decide +kernel, fun j h1 h2 => wy_sum j h2 h1, by decide +kernel⟩
end Mine
end
section
open PySem PySem.W PyProof.Rows PySem.Calls PyProof.Rows.LCg
set_option maxHeartbeats 1000000
namespace Mine
/-- a row: no end of a line in it -/
noncomputable def NoE (r : List Nat) : Prop := ∀ c ∈ r, c ≠ 10 ∧ c ≠ 13
noncomputable def isEnd (w : List Nat) : Prop := w = [13] ∨ w = [10] ∨ w = [13, 10]
theorem nrm_cons (b : Bool) (c : Nat) (t : List Nat) : nrm b (c :: t) = if c = 10 then (if b then nrm false t else 13 :: 10 :: nrm false t) else if c = 13 then 13 :: 10 :: nrm true t else c :: nrm false t := rfl
theorem dots_cons (b : Bool) (c : Nat) (t : List Nat) : dots b (c :: t) = if b = true ∧ c = 46 then 46 :: 46 :: dots false t else c :: dots (decide (c = 10)) t := rfl
theorem nrm_row : ∀ {r : List Nat} {b : Bool} {t : List Nat}, NoE r → r ≠ [] → nrm b (r ++ t) = r ++ nrm false t
  | [], _, _, _, h => absurd rfl h
  | c :: r, b, t, hr, _ => by
    have hc := hr c (.head _)
    have hr' : NoE r := fun x hx => hr x (.tail _ hx)
    show nrm b (c :: (r ++ t)) = c :: (r ++ nrm false t)
    rw [nrm_cons, if_neg hc.1, if_neg hc.2]
    by_cases e : r = []
    · subst e; rfl
    · rw [nrm_row hr' e]
theorem nrm_row' {r : List Nat} {t : List Nat} (hr : NoE r) : nrm false (r ++ t) = r ++ nrm false t := by
  by_cases e : r = []
  · subst e; rfl
  · exact nrm_row hr e
/-- does the end w' fall to the end w ahead of it, with the row r between -/
noncomputable def eats (w r w' : List Nat) : Bool := decide (w = [13] ∧ r = [] ∧ w' = [10])
theorem nrm_end {w : List Nat} {t : List Nat} (hw : isEnd w) : nrm false (w ++ t) = 13 :: 10 :: nrm (decide (w = [13])) t := by
  rcases hw with rfl | rfl | rfl
  · simp [nrm]
  · simp [nrm]
  · simp [nrm]
theorem nrm_step {w r w' t : List Nat} (hw : isEnd w) (hr : NoE r) (hw' : isEnd w') : nrm (decide (w = [13])) (r ++ (w' ++ t)) = r ++ (if eats w r w' = true then nrm false t else 13 :: 10 :: nrm (decide (w' = [13])) t) := by
  by_cases e : r = []
  · subst e
    show nrm (decide (w = [13])) (w' ++ t) = _
    unfold eats
    rcases hw with rfl | rfl | rfl <;> rcases hw' with rfl | rfl | rfl <;> simp [nrm]
  · rw [nrm_row hr e, nrm_end hw']
    have : eats w r w' = false := by unfold eats; simp [e]
    rw [this]; simp
theorem nrm_last {w r : List Nat} (hr : NoE r) : nrm (decide (w = [13])) r = r := by
  have h := @nrm_row r (decide (w = [13])) [] hr
  rw [List.append_nil] at h
  by_cases e : r = []
  · subst e; rfl
  · rw [h e]; simp [nrm]
noncomputable def dotL (r : List Nat) : List Nat := if r.head? = some 46 then 46 :: r else r
theorem dots_in : ∀ {r : List Nat} {t : List Nat}, NoE r → dots false (r ++ t) = r ++ dots false t
  | [], _, _ => rfl
  | c :: r, t, hr => by
    show dots false (c :: (r ++ t)) = c :: (r ++ dots false t)
    have hc := hr c (.head _)
    rw [dots_cons, if_neg (by simp)]
    rw [show decide (c = 10) = false from decide_eq_false hc.1, dots_in fun x hx => hr x (.tail _ hx)]
theorem dots_row {r t : List Nat} (hr : NoE r) : dots true (r ++ 13 :: 10 :: t) = dotL r ++ 13 :: 10 :: dots true t := by
  cases r with
  | nil => simp [dots, dotL]
  | cons c r =>
    have hc := hr c (.head _)
    have hr' : NoE r := fun x hx => hr x (.tail _ hx)
    show dots true (c :: (r ++ 13 :: 10 :: t)) = _
    rw [dots_cons]
    by_cases e : c = 46
    · subst e
      rw [if_pos ⟨rfl, rfl⟩, dots_in hr']
      simp [dots, dotL]
    · rw [if_neg (fun h => e h.2), show decide (c = 10) = false from decide_eq_false hc.1, dots_in hr']
      simp [dots, dotL, e]
theorem dots_lastrow {r : List Nat} (hr : NoE r) : dots true r = dotL r := by
  cases r with
  | nil => simp [dots, dotL]
  | cons c r =>
    have hc := hr c (.head _)
    have hr' : NoE r := fun x hx => hr x (.tail _ hx)
    have h := @dots_in r [] hr'
    rw [List.append_nil] at h
    rw [dots_cons]
    by_cases e : c = 46
    · subst e
      rw [if_pos ⟨rfl, rfl⟩, h]; simp [dots, dotL]
    · rw [if_neg (fun h => e h.2), show decide (c = 10) = false from decide_eq_false hc.1, h]
      simp [dots, dotL, e]
noncomputable def textL (r0 w0 r1 w1 r2 w2 r3 : List Nat) : List Nat := r0 ++ (w0 ++ (r1 ++ (w1 ++ (r2 ++ (w2 ++ r3)))))
noncomputable def goalL (r0 r1 r2 r3 : List Nat) : List Nat := dotL r0 ++ 13 :: 10 :: (dotL r1 ++ 13 :: 10 :: (dotL r2 ++ 13 :: 10 :: dotL r3))
theorem dotL_count {r : List Nat} (hr : NoE r) : (dotL r).count 10 = 0 := by
  have h : r.count 10 = 0 := List.count_eq_zero.mpr fun hm => (hr 10 hm).1 rfl
  unfold dotL
  split
  · rw [List.count_cons, h]; rfl
  · exact h
theorem quote_iff {r0 w0 r1 w1 r2 w2 r3 : List Nat} (h0 : NoE r0) (h1 : NoE r1) (h2 : NoE r2) (h3 : NoE r3) (e0 : isEnd w0) (e1 : isEnd w1) (e2 : isEnd w2) :
    quoteL (textL r0 w0 r1 w1 r2 w2 r3) = goalL r0 r1 r2 r3 ↔ (eats w0 r1 w1 = false ∧ eats w1 r2 w2 = false) := by
  have hz : ∀ {r : List Nat}, NoE r → (dotL r).count 10 = 0 := fun h => dotL_count h
  unfold quoteL textL
  rw [nrm_row' h0, nrm_end e0, dots_row h0, nrm_step e0 h1 e1]
  cases a : eats w0 r1 w1 with
  | false =>
    simp only [Bool.false_eq_true, if_false]
    rw [dots_row h1, nrm_step e1 h2 e2]
    cases b : eats w1 r2 w2 with
    | false =>
      simp only [Bool.false_eq_true, if_false]
      rw [dots_row h2, nrm_last h3, dots_lastrow h3]
      simp [goalL]
    | true =>
      have hr2 : r2 = [] := by unfold eats at b; simp at b; exact b.2.1
      subst hr2
      simp only [if_true]
      rw [show nrm false r3 = r3 from by have := @nrm_row' r3 [] h3; simpa [nrm] using this, List.nil_append, dots_lastrow h3]
      constructor
      · intro h
        have := congrArg (List.count 10) h
        simp [goalL, List.count_append, List.count_cons, hz h0, hz h1, hz h3, dotL] at this
      · intro h; simp at h
  | true =>
    have hr1 : r1 = [] := by unfold eats at a; simp at a; exact a.2.1
    subst hr1
    simp only [if_true]
    constructor
    · intro h
      exfalso
      have h := congrArg (List.count 10) h
      rw [List.nil_append, nrm_row' h2, nrm_end e2, dots_row h2, nrm_last h3, dots_lastrow h3] at h
      simp [goalL, List.count_append, List.count_cons, hz h0, hz h2, hz h3, dotL] at h
    · intro h; simp at h
end Mine
end
section
open PySem PySem.W PyProof.Rows PySem.Calls PyProof.Rows.LCg
set_option maxHeartbeats 4000000
namespace Mine
noncomputable def endS (k : Nat) : Str := [Str.ofString "\r", Str.ofString "\n", Str.ofString "\r\n"].getD k ⟨#[]⟩
theorem qok_all : ∀ x, x < 75 → ∀ k, k < 3 → ∀ j, j < 3 → qOK (endS k) (rowS (x : Nat)) (endS j) = !(decide (rowS (x : Nat) = Str.ofString "") && (k == 0 && j == 1)) := by decide +kernel
end Mine
namespace Mine
theorem cps_app (a b : Str) : (a ++ b).cps.toList = a.cps.toList ++ b.cps.toList := by
  show (a.cps ++ b.cps).toList = _
  simp
theorem rows_all : ∀ x, x < 75 → ((rowS (x : Nat)).cps.toList.all fun c => c != 10 && c != 13) = true ∧ (rowS (x : Nat)).length ≤ 2 ∧ (sentRow (rowS (x : Nat))).cps.toList = dotL (rowS (x : Nat)).cps.toList := by decide +kernel
theorem join4 (s a b c d : Str) : (Txt.join s [a, b, c, d]).cps.toList = a.cps.toList ++ (s.cps.toList ++ (b.cps.toList ++ (s.cps.toList ++ (c.cps.toList ++ (s.cps.toList ++ d.cps.toList))))) := by
  have h : Txt.join s [a, b, c, d] = a ++ s ++ (b ++ s ++ (c ++ s ++ d)) := by
    show Builtin.Str.glued s _ = _
    rw [StrLaws.glued_eq_join]; rfl
  rw [h]; simp only [cps_app, List.append_assoc]
theorem str_eq {a b : Str} : a = b ↔ a.cps.toList = b.cps.toList := by
  constructor
  · intro h; rw [h]
  · intro h; cases a; cases b; simp at h; simp [h]
noncomputable def Row (r : Str) : Prop := ∃ x : Nat, x < 75 ∧ r = rowS (x : Nat)
theorem Row.noE {r : Str} (h : Row r) : NoE r.cps.toList := by
  obtain ⟨x, hx, rfl⟩ := h
  intro c hc
  have := List.all_eq_true.mp (rows_all x hx).1 c hc
  simp at this
  exact this
theorem Row.sent {r : Str} (h : Row r) : (sentRow r).cps.toList = dotL r.cps.toList := by
  obtain ⟨x, hx, rfl⟩ := h
  exact (rows_all x hx).2.2
theorem Row.len {r : Str} (h : Row r) : r.length ≤ 2 := by
  obtain ⟨x, hx, rfl⟩ := h
  exact (rows_all x hx).2.1
theorem end_is : ∀ k, k < 3 → isEnd (endS k).cps.toList := by
  intro k hk
  obtain rfl | rfl | rfl : k = 0 ∨ k = 1 ∨ k = 2 := by omega
  · exact .inl (by decide +kernel)
  · exact .inr (.inl (by decide +kernel))
  · exact .inr (.inr (by decide +kernel))
end Mine
end
section
open PySem PySem.W PyProof.Rows PySem.Calls
set_option maxHeartbeats 4000000
namespace Mine
local macro_rules | `(tactic| walk_at $s:str) => wk "" s
local macro_rules | `(tactic| walk_at "execs cons") => `(tactic| (k_here; goal_has PySem.W.UnrPost; k_fold))
local macro_rules | `(tactic| walk_at "exec For Name Subscript cons nil") => `(tactic| (k_here; (rename Fr _ _ _ _ => lF'); (with_unfolding_all refine' For_invVF lF' ?k1 ?k2 ?_; (case k1 => exact rfl); (case k2 => exact rfl); k_whole)))
local macro_rules | `(tactic| walk_at "subscriptTail") => `(tactic| (k_here; (with_reducible show wpAny _ _ (subscriptTail _ _ (Value.ref _) (Value.int _ _)) _ _ _); with_unfolding_all (refine sub_base (by assumption) (by assumption) (by decide) (by decide) (by rfl) ?_)))
section
variable {w : World} {mean : ExcName → Option Value} {mg mb : Str → Option Value} {base : Heap} {outer : List Env} {g : Heap} {gs : Array GenState} {dr : Drawn} {tk : Nat} {os : OsState} {Q E : Value → Shared → Prop}


noncomputable def partedB (r1 r2 w0 w1 w2 : Str) : Bool := !(decide (w0 ++ r1 ++ w1 = Str.ofString "\r\n")) && !(decide (w1 ++ r2 ++ w2 = Str.ofString "\r\n"))
theorem c_parted (C : Cx w mean mg mb 0 base outer g) {ra wa : Addr} {r0 r1 r2 r3 w0 w1 w2 : Str} {t0 t1 t2 t3 u0 u1 u2 : Tok} (hr : g.IsList ra [.str r0 t0, .str r1 t1, .str r2 t2, .str r3 t3].toArray) (hw : g.IsList wa [.str w0 u0, .str w1 u1, .str w2 u2].toArray)
   (l0 : r0.length ≤ 2) (l1 : r1.length ≤ 2) (l2 : r2.length ≤ 2) (l3 : r3.length ≤ 2) (k0 : w0.length ≤ 2) (k1 : w1.length ≤ 2) (k2 : w2.length ≤ 2)
   (ret : ∀ h' tk', Keeps g h' → Q (.bool (partedB r1 r2 w0 w1 w2)) ⟨h', gs, dr, tk', os⟩) :
   wpAny (model Challenge.rw_ny0273_01.row.prog w) (AA 0 outer) (call (.ref 229) [.ref ra, .ref wa]) Q E ⟨g, gs, dr, tk, os⟩ := by
  have X := C.X; revert X; k_fill; intro X
  refine wpAny_call ?_
  refine' enter [(Str.ofString "word", .ref wa), (Str.ofString "rows", .ref ra)] [] C (List.forall_mem_nil _) ?ho ?hcd ?hb ?hl ?c1 ?c2 ?c3 ?c4 ?_
  k_dflt ((case ho => k_is); (case hcd => k_is); (case hb => exact BindsTo.of_eq rfl); (case c4 => decide); (case hl => exact locs rfl); (case c1 => exact rfl); (case c2 => exact rfl); (case c3 => exact rfl); k_whole; intro _ _ _ _ eg _ _ _ _ _; replace eg := (show _ = _ from eg); subst eg; (try dsimp only); (try k_fold))
  k_steps
  all_goals (try dsimp only)
  · rename (w0 ++ r1 ++ w1 == _) = true => q1
    have e : partedB r1 r2 w0 w1 w2 = false := by simp only [partedB, decide_eq_true (eq_of_beq q1)]; rfl
    rw [← e]; exact ret _ _ (Fr.keep (by assumption))
  · rename (w1 ++ r2 ++ w2 == _) = true => q1
    have e : partedB r1 r2 w0 w1 w2 = false := by simp only [partedB, decide_eq_true (eq_of_beq q1)]; simp
    rw [← e]; exact ret _ _ (Fr.keep (by assumption))
  · rename (w1 ++ r2 ++ w2 == _) = false => q1
    rename (w0 ++ r1 ++ w1 == _) = false => q2
    have e : partedB r1 r2 w0 w1 w2 = true := by simp only [partedB, decide_eq_false (ne_of_beq_false q1), decide_eq_false (ne_of_beq_false q2)]; rfl
    rw [← e]; exact ret _ _ (Fr.keep (by assumption))
noncomputable def manyZ (r1 r2 : Str) : Int := if r1 = Str.ofString "" then (if r2 = Str.ofString "" then 21 else 24) else (if r2 = Str.ofString "" then 24 else 27)
theorem c_many (C : Cx w mean mg mb 0 base outer g) {ra : Addr} {r0 r1 r2 r3 : Str} {t0 t1 t2 t3 : Tok} (hr : g.IsList ra [.str r0 t0, .str r1 t1, .str r2 t2, .str r3 t3].toArray)
   (l0 : r0.length ≤ 2) (l1 : r1.length ≤ 2) (l2 : r2.length ≤ 2) (l3 : r3.length ≤ 2)
   (ret : ∀ t h' tk', Keeps g h' → Q (.int (manyZ r1 r2) t) ⟨h', gs, dr, tk', os⟩) :
   wpAny (model Challenge.rw_ny0273_01.row.prog w) (AA 0 outer) (call (.ref 258) [.ref ra]) Q E ⟨g, gs, dr, tk, os⟩ := by
  have X := C.X; revert X; k_fill; intro X
  refine wpAny_call ?_
  refine' enter [(Str.ofString "rows", .ref ra)] [] C (List.forall_mem_nil _) ?ho ?hcd ?hb ?hl ?c1 ?c2 ?c3 ?c4 ?_
  k_dflt ((case ho => k_is); (case hcd => k_is); (case hb => exact BindsTo.of_eq rfl); (case c4 => decide); (case hl => exact locs rfl); (case c1 => exact rfl); (case c2 => exact rfl); (case c3 => exact rfl); k_whole; intro _ _ _ _ eg _ _ _ _ _; replace eg := (show _ = _ from eg); subst eg; (try dsimp only); (try k_fold))
  k_steps
  all_goals (try dsimp only)
  · rename (r1 == _) = true => q1
    rename (r2 == _) = true => q2
    have e : manyZ r1 r2 = 21 := by rw [manyZ, if_pos (eq_of_beq q1), if_pos (eq_of_beq q2)]
    rw [e] at ret; exact ret _ _ _ (Fr.keep (by assumption))
  · rename (r1 == _) = true => q1
    rename (r2 == _) = false => q2
    have e : manyZ r1 r2 = 24 := by rw [manyZ, if_pos (eq_of_beq q1), if_neg (ne_of_beq_false q2)]
    rw [e] at ret; exact ret _ _ _ (Fr.keep (by assumption))
  · rename (r1 == _) = false => q1
    rename (r2 == _) = true => q2
    have e : manyZ r1 r2 = 24 := by rw [manyZ, if_neg (ne_of_beq_false q1), if_pos (eq_of_beq q2)]
    rw [e] at ret; exact ret _ _ _ (Fr.keep (by assumption))
  · rename (r1 == _) = false => q1
    rename (r2 == _) = false => q2
    have e : manyZ r1 r2 = 27 := by rw [manyZ, if_neg (ne_of_beq_false q1), if_neg (ne_of_beq_false q2)]
    rw [e] at ret; exact ret _ _ _ (Fr.keep (by assumption))
end
end Mine
end
section
open PySem PySem.W PyProof.Rows
theorem Mine.anew20 {M : Model} {A : Around} {env : Env} {Q : Flow → Shared → Prop} {E : Value → Shared → Prop} {s : Shared} (h : wpAny M A (execs [] env) Q E s) : wpAny M A (execs [] env) Q E s := by first | (walk1; done) | exact h
end
section
open PySem PySem.W PyProof.Rows PySem.Calls PyProof.Rows.LCg
set_option maxHeartbeats 4000000
namespace Mine
theorem eats_all : ∀ x, x < 75 → ∀ k, k < 3 → ∀ j, j < 3 → decide (endS k ++ rowS (x : Nat) ++ endS j = Str.ofString "\r\n") = eats (endS k).cps.toList (rowS (x : Nat)).cps.toList (endS j).cps.toList := by decide +kernel
theorem eats_row {r : Str} (h : Row r) {k j : Nat} (hk : k < 3) (hj : j < 3) : decide (endS k ++ r ++ endS j = Str.ofString "\r\n") = eats (endS k).cps.toList r.cps.toList (endS j).cps.toList := by
  obtain ⟨x, hx, rfl⟩ := h
  exact eats_all x hx k hk j hj
noncomputable def textS (r0 r1 r2 r3 : Str) (i j k : Nat) : Str := r0 ++ (endS i ++ r1) ++ (endS j ++ r2) ++ (endS k ++ r3)
noncomputable def goalS (r0 r1 r2 r3 : Str) : Str := Txt.join (Str.ofString "\r\n") ([r0, r1, r2, r3].map sentRow)
noncomputable def partB (r1 r2 : Str) (i j k : Nat) : Bool := partedB r1 r2 (endS i) (endS j) (endS k)
theorem right_iff {r0 r1 r2 r3 : Str} (h0 : Row r0) (h1 : Row r1) (h2 : Row r2) (h3 : Row r3) {i j k : Nat} (hi : i < 3) (hj : j < 3) (hk : k < 3) : decide (dotS (nrmS (textS r0 r1 r2 r3 i j k)) = goalS r0 r1 r2 r3) = partB r1 r2 i j k := by
  have q := quote_iff h0.noE h1.noE h2.noE h3.noE (end_is i hi) (end_is j hj) (end_is k hk)
  have e1 : (dotS (nrmS (textS r0 r1 r2 r3 i j k))).cps.toList = quoteL (textL r0.cps.toList (endS i).cps.toList r1.cps.toList (endS j).cps.toList r2.cps.toList (endS k).cps.toList r3.cps.toList) := by
    show (dots true ((nrm false (textS r0 r1 r2 r3 i j k).cps.toList).toArray).toList).toArray.toList = _
    simp [quoteL, textL, textS, cps_app, List.append_assoc]
  have e2 : (goalS r0 r1 r2 r3).cps.toList = goalL r0.cps.toList r1.cps.toList r2.cps.toList r3.cps.toList := by
    show (Txt.join _ [sentRow r0, sentRow r1, sentRow r2, sentRow r3]).cps.toList = _
    rw [join4, h0.sent, h1.sent, h2.sent, h3.sent, show (Str.ofString "\r\n").cps.toList = [13, 10] by decide +kernel]
    simp [goalL]
  have e3 : (dotS (nrmS (textS r0 r1 r2 r3 i j k)) = goalS r0 r1 r2 r3) ↔ (eats (endS i).cps.toList r1.cps.toList (endS j).cps.toList = false ∧ eats (endS j).cps.toList r2.cps.toList (endS k).cps.toList = false) := by
    rw [str_eq, e1, e2]; exact q
  unfold partB partedB
  rw [eats_row h1 hi hj, eats_row h2 hj hk, decide_eq_decide.mpr e3]
  rw [Bool.eq_iff_iff, decide_eq_true_eq, Bool.and_eq_true, Bool.not_eq_true', Bool.not_eq_true']
theorem qok_row {r : Str} (h : Row r) {k j : Nat} (hk : k < 3) (hj : j < 3) : qOK (endS k) r (endS j) = !(decide (r = Str.ofString "") && (k == 0 && j == 1)) := by
  obtain ⟨x, hx, rfl⟩ := h
  exact qok_all x hx k hk j hj
theorem heads_are {R : Nat → Str} (h1 : Row (R 1)) (h2 : Row (R 2)) : ∀ n, n < 9 → hsOf endS R n = (hsB (decide (R 1 = Str.ofString "")) (decide (R 2 = Str.ofString "")) n).map fun p : Nat => (p : Int) := by
  intro n hn
  unfold hsOf hsB
  by_cases h3 : n < 3
  · simp [h3]
  · rw [if_neg h3, if_neg h3, List.map_map]
    have e : ((List.range 3).filter fun k => qOK (endS k) (R (n / 3)) (endS (n % 3))) = ((List.range 3).filter fun k => !((if n / 3 = 1 then decide (R 1 = Str.ofString "") else decide (R 2 = Str.ofString "")) && (k == 0 && n % 3 == 1))) := by
      refine List.filter_congr fun k hk => ?_
      have hk3 := List.mem_range.mp hk
      obtain e | e : n / 3 = 1 ∨ n / 3 = 2 := by omega
      · rw [e, qok_row h1 hk3 (by omega)]; simp
      · rw [e, qok_row h2 hk3 (by omega)]; simp
    rw [e]; rfl
theorem many_is (r1 r2 : Str) : wyB (decide (r1 = Str.ofString "")) (decide (r2 = Str.ofString "")) 6 + wyB (decide (r1 = Str.ofString "")) (decide (r2 = Str.ofString "")) 7 + wyB (decide (r1 = Str.ofString "")) (decide (r2 = Str.ofString "")) 8 = manyZ r1 r2 := by
  unfold manyZ
  by_cases a : r1 = Str.ofString "" <;> by_cases b : r2 = Str.ofString "" <;> simp [a, b] <;> decide +kernel
end Mine
end
section
open PySem PySem.W PyProof.Rows PySem.Calls PyProof.Rows.LCg
set_option maxHeartbeats 4000000
namespace Mine
noncomputable def eL : Nat → List Nat
  | 0 => [13]
  | 1 => [10]
  | _ => [13, 10]
/-- what stands behind row m - 1, by its ends -/
noncomputable def tlA (R : Nat → List Nat) : Nat → List Nat → List Nat
  | _, [] => []
  | m, e :: es => eL e ++ (R m ++ tlA R (m + 1) es)
noncomputable def okA (z : Nat → Bool) : Nat → List Nat → Bool
  | _, [] => true
  | _, [_] => true
  | m, e :: f :: es => !(z m && (e == 0 && f == 1)) && okA z (m + 1) (f :: es)
noncomputable def rkA : Nat → Nat
  | 0 => 2
  | 1 => 0
  | _ => 1
noncomputable def lexA : List Nat → List Nat → Bool
  | e :: es, f :: fs => if e = f then lexA es fs else decide (rkA e < rkA f)
  | _, _ => false
theorem lexA_self : ∀ a, lexA a a = false
  | [] => rfl
  | e :: es => by simp [lexA, lexA_self es]
theorem app_lt (a : List Nat) {x y : List Nat} : a ++ x < a ++ y ↔ x < y := by
  induction a with
  | nil => rfl
  | cons c a ih => rw [← ih]; simp [List.cons_lt_cons_iff]
theorem okA_tail {z : Nat → Bool} {m e : Nat} {es : List Nat} (h : okA z m (e :: es) = true) : okA z (m + 1) es = true := by
  cases es with
  | nil => rfl
  | cons f es => simp only [okA, Bool.and_eq_true] at h; exact h.2
/-- what follows a return that is no part of a whole end is above a feed -/
theorem next_gt {R : Nat → List Nat} {m : Nat} {fs : List Nat} (hR : ∀ m, ∀ c ∈ R m, 10 < c) (h3 : ∀ f ∈ fs, f < 3) (hok : okA (fun m => (R m).isEmpty) m (0 :: fs) = true) (hne : R m ++ tlA R (m + 1) fs ≠ []) : ∃ c t, R m ++ tlA R (m + 1) fs = c :: t ∧ 10 < c := by
  cases hr : R m with
  | cons c t => exact ⟨c, t ++ tlA R (m + 1) fs, rfl, hR m c (by rw [hr]; exact List.mem_cons_self)⟩
  | nil =>
    cases fs with
    | nil => simp [hr, tlA] at hne
    | cons f fs =>
      have hf := h3 f List.mem_cons_self
      have hz : f ≠ 1 := by
        rintro rfl
        simp [okA, hr] at hok
      obtain rfl | rfl : f = 0 ∨ f = 2 := by omega
      · exact ⟨13, R (m + 1) ++ tlA R (m + 1 + 1) fs, rfl, by decide⟩
      · exact ⟨13, 10 :: (R (m + 1) ++ tlA R (m + 1 + 1) fs), rfl, by decide⟩
theorem lex_tl {R : Nat → List Nat} (hR : ∀ m, ∀ c ∈ R m, 10 < c) : ∀ (a b : List Nat) (m : Nat), (∀ e ∈ a, e < 3) → (∀ f ∈ b, f < 3) → okA (fun m => (R m).isEmpty) m a = true → okA (fun m => (R m).isEmpty) m b = true → (tlA R m a).length = (tlA R m b).length →
    (tlA R m a < tlA R m b ↔ lexA a b = true) ∧ (tlA R m a = tlA R m b → a = b)
  | [], [], m, _, _, _, _, _ => ⟨by simp [tlA, lexA], fun _ => rfl⟩
  | [], f :: fs, m, _, hb, _, _, hl => by
    have : 0 < (eL f).length := by match f with | 0 => decide | 1 => decide | n + 2 => exact Nat.zero_lt_succ _
    simp [tlA] at hl; omega
  | e :: es, [], m, _, hb, _, _, hl => by
    have : 0 < (eL e).length := by match e with | 0 => decide | 1 => decide | n + 2 => exact Nat.zero_lt_succ _
    have hl : (eL e ++ (R m ++ tlA R (m + 1) es)).length = 0 := hl
    rw [List.length_append] at hl; omega
  | e :: es, f :: fs, m, ha, hb, oa, ob, hl => by
    by_cases he : e = f
    · subst he
      have ih := lex_tl hR es fs (m + 1) (fun x hx => ha x (List.mem_cons_of_mem _ hx)) (fun x hx => hb x (List.mem_cons_of_mem _ hx)) (okA_tail oa) (okA_tail ob) (by simp [tlA] at hl; omega)
      simp only [tlA, lexA, if_true]
      rw [app_lt, app_lt]
      exact ⟨ih.1, fun h => by rw [ih.2 (List.append_cancel_left (List.append_cancel_left h))]⟩
    · have e3 := ha e List.mem_cons_self
      have f3 := hb f List.mem_cons_self
      have ha' := fun x hx => ha x (List.mem_cons_of_mem _ hx)
      have hb' := fun x hx => hb x (List.mem_cons_of_mem _ hx)
      simp only [lexA, if_neg he]
      have E : e = 0 ∨ e = 1 ∨ e = 2 := by omega
      have F : f = 0 ∨ f = 1 ∨ f = 2 := by omega
      rcases E with rfl | rfl | rfl <;> rcases F with rfl | rfl | rfl
      all_goals first | exact absurd rfl he | skip
      · exact ⟨by simp [tlA, eL, rkA, List.cons_lt_cons_iff], by simp [tlA, eL]⟩
      · have hne : R m ++ tlA R (m + 1) es ≠ [] := by
          intro h; simp only [tlA, h, eL] at hl; simp at hl
        obtain ⟨c, t, hc, h10⟩ := next_gt hR ha' oa hne
        exact ⟨by simp [tlA, eL, rkA, hc, List.cons_lt_cons_iff]; omega, by simp [tlA, eL, hc]; omega⟩
      · exact ⟨by simp [tlA, eL, rkA, List.cons_lt_cons_iff], by simp [tlA, eL]⟩
      · exact ⟨by simp [tlA, eL, rkA, List.cons_lt_cons_iff], by simp [tlA, eL]⟩
      · have hne : R m ++ tlA R (m + 1) fs ≠ [] := by
          intro h; simp only [tlA, h, eL] at hl; simp at hl
        obtain ⟨c, t, hc, h10⟩ := next_gt hR hb' ob hne
        exact ⟨by simp [tlA, eL, rkA, hc, List.cons_lt_cons_iff]; omega, by simp [tlA, eL, hc]; omega⟩
      · exact ⟨by simp [tlA, eL, rkA, List.cons_lt_cons_iff], by simp [tlA, eL]⟩
end Mine
end
section
open PySem PySem.W PyProof.Rows PySem.Calls PyProof.Rows.LCg
set_option maxHeartbeats 4000000
namespace Mine
noncomputable def eN : Nat → Nat
  | 0 => 1
  | 1 => 1
  | _ => 2
noncomputable def nA (l : Nat → Nat) : Nat → List Nat → Nat
  | _, [] => 0
  | m, e :: es => eN e + (l m + nA l (m + 1) es)
noncomputable def ltA (l : Nat → Nat) (a b : List Nat) : Bool := if nA l 1 a = nA l 1 b then lexA a b else decide (nA l 1 a < nA l 1 b)
noncomputable def goA (l : Nat → Nat) (a : List Nat) (i : Nat) : Bool := match a.getLast? with
  | none => true
  | some e => !(decide (l a.length = 0) && (e == 0 && i == 1))
noncomputable def pushA (l : Nat → Nat) (a : List Nat) (q : List (List Nat)) (i : Nat) : List (List Nat) := if goA l a i = true then hpush (ltA l) q (a ++ [i]) else q
noncomputable def runA (l : Nat → Nat) : Nat → List (List Nat) → List (List Nat) → Option (List (List Nat))
  | 0, _, _ => none
  | n + 1, q, f => if 100 < q.length ∨ 100 < f.length then none else match hpop (ltA l) q with
    | none => some f
    | some (x, rest) => if x.length = 3 then runA l n rest (f ++ [x]) else runA l n (pushA l x (pushA l x (pushA l x rest 0) 1) 2) f
noncomputable def wordsA : List (List Nat) := (List.range 3).flatMap fun i => (List.range 3).flatMap fun j => (List.range 3).map fun k => [i, j, k]
noncomputable def dueA (l : Nat → Nat) : List (List Nat) := wordsA.filter (okA (fun m => decide (l m = 0)) 1)
noncomputable def lenA (l1 l2 l3 : Nat) (m : Nat) : Nat := [0, l1, l2, l3].getD m 0
noncomputable def sLtA (l : Nat → Nat) (xs : List (List Nat)) (i j : Nat) : Bool := ltA l (xs.getD i []) (xs.getD j [])
noncomputable def sortA (l : Nat → Nat) (xs : List (List Nat)) : List (List Nat) := (runT (sLtA l xs) (kas_sort xs.length)).toList.map fun i => xs.getD i []
noncomputable def allA (l : Nat → Nat) : Bool := let xs := dueA l
  let p := (runT (sLtA l xs) (kas_sort xs.length)).toList
  decide (runA l 60 [[]] [] = some (p.map fun i => xs.getD i [])) && (okT xs.length (sLtA l xs) (kas_sort xs.length) && (p.all (· < xs.length) && (p.length == xs.length && (decide (2 ≤ xs.length) && decide (xs.length < 64)))))
theorem all_A : ∀ l1, l1 < 3 → ∀ l2, l2 < 3 → ∀ l3, l3 < 3 → allA (lenA l1 l2 l3) = true := by decide +kernel
end Mine
end
section
open PySem PySem.W PyProof.Rows PySem.Calls PyProof.Rows.LCg
set_option maxHeartbeats 4000000
namespace Mine
theorem rows_gt : ∀ x, x < 75 → ((rowS (x : Nat)).cps.toList.all fun c => decide (10 < c)) = true := by decide +kernel
theorem Row.gt {r : Str} (h : Row r) : ∀ c ∈ r.cps.toList, 10 < c := by
  obtain ⟨x, hx, rfl⟩ := h
  intro c hc
  have := List.all_eq_true.mp (rows_gt x hx) c hc
  simpa using this
noncomputable def RR (r1 r2 r3 : Str) (m : Nat) : List Nat := [[], r1.cps.toList, r2.cps.toList, r3.cps.toList].getD m []
noncomputable def RS (r0 r1 r2 r3 : Str) (m : Nat) : Str := [r0, r1, r2, r3].getD m ⟨#[]⟩
noncomputable def txA (r0 r1 r2 r3 : Str) (a : List Nat) : Str := ⟨(r0.cps.toList ++ tlA (RR r1 r2 r3) 1 a).toArray⟩
noncomputable def kA (a : List Nat) : Int := match a with
  | [] => -1
  | [e] => (e : Int)
  | [_, e] => 3 + (e : Int)
  | _ :: _ :: e :: _ => 6 + (e : Int)
noncomputable def fA (r0 r1 r2 r3 : Str) (a : List Nat) : Dt := ⟨(txA r0 r1 r2 r3 a).length, txA r0 r1 r2 r3 a, kA a⟩
noncomputable def SA (l : Nat → Nat) (a : List Nat) : Prop := okA (fun m => decide (l m = 0)) 1 a = true ∧ (∀ e ∈ a, e < 3) ∧ a.length ≤ 3
theorem str_len (x : Str) : x.cps.toList.length = x.length := Array.length_toList
theorem len_RR (r1 r2 r3 : Str) : ∀ m, lenA r1.length r2.length r3.length m = (RR r1 r2 r3 m).length
  | 0 => rfl
  | 1 => (str_len r1).symm
  | 2 => (str_len r2).symm
  | 3 => (str_len r3).symm
  | _ + 4 => rfl
theorem emp_RR (r1 r2 r3 : Str) : (fun m => (RR r1 r2 r3 m).isEmpty) = fun m => decide (lenA r1.length r2.length r3.length m = 0) := by
  funext m
  rw [len_RR]
  cases RR r1 r2 r3 m <;> simp
theorem eN_len (e : Nat) : (eL e).length = eN e := by
  match e with
  | 0 => rfl
  | 1 => rfl
  | _ + 2 => rfl
theorem nA_len (r1 r2 r3 : Str) : ∀ (a : List Nat) (m : Nat), (tlA (RR r1 r2 r3) m a).length = nA (lenA r1.length r2.length r3.length) m a
  | [], m => rfl
  | e :: es, m => by simp only [tlA, nA, List.length_append, eN_len, len_RR, nA_len r1 r2 r3 es (m + 1)]
theorem txA_len (r0 r1 r2 r3 : Str) (a : List Nat) : (txA r0 r1 r2 r3 a).length = r0.length + nA (lenA r1.length r2.length r3.length) 1 a := by
  rw [← nA_len, ← str_len r0, ← List.length_append]
  show ((r0.cps.toList ++ tlA (RR r1 r2 r3) 1 a).toArray).size = _
  rw [List.size_toArray]
theorem RR_gt {r1 r2 r3 : Str} (h1 : Row r1) (h2 : Row r2) (h3 : Row r3) : ∀ m, ∀ c ∈ RR r1 r2 r3 m, 10 < c
  | 0 => fun _ h => nomatch h
  | 1 => h1.gt
  | 2 => h2.gt
  | 3 => h3.gt
  | _ + 4 => fun _ h => nomatch h
theorem nA_le {l1 l2 l3 : Nat} (h1 : l1 ≤ 2) (h2 : l2 ≤ 2) (h3 : l3 ≤ 2) : ∀ (a : List Nat) (m : Nat), nA (lenA l1 l2 l3) m a ≤ 4 * a.length
  | [], m => Nat.le_refl _
  | e :: es, m => by
    have ih := nA_le h1 h2 h3 es (m + 1)
    have a1 : eN e ≤ 2 := by
      match e with
      | 0 => decide
      | 1 => decide
      | _ + 2 => exact Nat.le_refl _
    have a2 : lenA l1 l2 l3 m ≤ 2 := by
      match m with
      | 0 => exact Nat.zero_le _
      | 1 => exact h1
      | 2 => exact h2
      | 3 => exact h3
      | _ + 4 => exact Nat.zero_le _
    simp only [nA, List.length_cons]
    omega
theorem lt_A {r0 r1 r2 r3 : Str} (h1 : Row r1) (h2 : Row r2) (h3 : Row r3) {a b : List Nat} (sa : SA (lenA r1.length r2.length r3.length) a) (sb : SA (lenA r1.length r2.length r3.length) b) : ltD (fA r0 r1 r2 r3 a) (fA r0 r1 r2 r3 b) = ltA (lenA r1.length r2.length r3.length) a b := by
  show ltK ((txA r0 r1 r2 r3 a).length : Int) (txA r0 r1 r2 r3 a) (kA a) ((txA r0 r1 r2 r3 b).length : Int) (txA r0 r1 r2 r3 b) (kA b) = _
  unfold ltK ltA
  have la := txA_len r0 r1 r2 r3 a
  have lb := txA_len r0 r1 r2 r3 b
  by_cases h : nA (lenA r1.length r2.length r3.length) 1 a = nA (lenA r1.length r2.length r3.length) 1 b
  · rw [if_pos h, if_pos (by rw [la, lb, h])]
    have hl : (tlA (RR r1 r2 r3) 1 a).length = (tlA (RR r1 r2 r3) 1 b).length := by rw [nA_len, nA_len, h]
    have L := lex_tl (RR_gt h1 h2 h3) a b 1 sa.2.1 sb.2.1 (by rw [emp_RR]; exact sa.1) (by rw [emp_RR]; exact sb.1) hl
    by_cases hx : txA r0 r1 r2 r3 a = txA r0 r1 r2 r3 b
    · have hx' : tlA (RR r1 r2 r3) 1 a = tlA (RR r1 r2 r3) 1 b := by
        have := congrArg (fun s : Str => s.cps.toList) hx
        simpa [txA] using this
      obtain rfl := L.2 hx'
      rw [if_pos rfl, lexA_self]; simp
    · rw [if_neg hx]
      rw [Bool.eq_iff_iff, decide_eq_true_eq, ← L.1]
      simp only [txA, List.toList_toArray]
      exact app_lt _
  · rw [if_neg h, if_neg (by omega)]
    rw [decide_eq_decide]; omega
noncomputable def PA (r0 r1 r2 r3 : Str) : Par := ⟨endS, RS r0 r1 r2 r3, fun i k => (hsOf endS (RS r0 r1 r2 r3) i.toNat).any (· == k)⟩
theorem hd1 : ∀ b1 b2, ∀ i, i < 3 → ∀ e : Nat, e < 3 → ((hsB b1 b2 (3 + i)).map fun p : Nat => (p : Int)).any (· == (e : Int)) = !(b1 && (e == 0 && i == 1)) := by decide +kernel
theorem hd2 : ∀ b1 b2, ∀ i, i < 3 → ∀ e : Nat, e < 3 → ((hsB b1 b2 (6 + i)).map fun p : Nat => (p : Int)).any (· == (3 + (e : Int))) = !(b2 && (e == 0 && i == 1)) := by decide +kernel
theorem emp_len (r : Str) : decide (r = Str.ofString "") = decide (r.length = 0) := by
  rw [decide_eq_decide, str_eq, ← str_len, show (Str.ofString "").cps.toList = [] by decide +kernel, List.length_eq_zero_iff]
theorem H_A {r0 r1 r2 r3 : Str} (h1 : Row r1) (h2 : Row r2) {a : List Nat} {i : Nat} (sa : SA (lenA r1.length r2.length r3.length) a) (h : a.length < 3) (hi : i < 3) :
    ((kA a = -1 ∨ (PA r0 r1 r2 r3).H (3 * (kA a).fdiv 3 + 3 + i) (kA a) = true) ↔ goA (lenA r1.length r2.length r3.length) a i = true) := by
  match a, sa, h with
  | [], _, _ => simp [kA, goA]
  | [e], sa, _ =>
    have e3 : e < 3 := sa.2.1 e List.mem_cons_self
    have ef : (e : Int).fdiv 3 = 0 := by rw [Int.fdiv_eq_ediv_of_nonneg _ (by omega)]; omega
    have en : kA [e] ≠ -1 := by show (e : Int) ≠ -1; omega
    have eh : (PA r0 r1 r2 r3).H (3 * (kA [e]).fdiv 3 + 3 + i) (kA [e]) = !(decide (r1 = Str.ofString "") && (e == 0 && i == 1)) := by
      show (hsOf endS (RS r0 r1 r2 r3) (3 * (e : Int).fdiv 3 + 3 + i).toNat).any (· == (e : Int)) = _
      rw [ef, show (3 * 0 + 3 + (i : Int)).toNat = 3 + i by omega, heads_are (R := RS r0 r1 r2 r3) h1 h2 (3 + i) (by omega)]
      exact hd1 _ _ i hi e e3
    rw [eh, emp_len]
    simp only [en, false_or]
    exact Iff.rfl
  | [d, e], sa, _ =>
    have e3 : e < 3 := sa.2.1 e (List.mem_cons_of_mem _ List.mem_cons_self)
    have ef : (3 + (e : Int)).fdiv 3 = 1 := by rw [Int.fdiv_eq_ediv_of_nonneg _ (by omega)]; omega
    have en : kA [d, e] ≠ -1 := by show 3 + (e : Int) ≠ -1; omega
    have eh : (PA r0 r1 r2 r3).H (3 * (kA [d, e]).fdiv 3 + 3 + i) (kA [d, e]) = !(decide (r2 = Str.ofString "") && (e == 0 && i == 1)) := by
      show (hsOf endS (RS r0 r1 r2 r3) (3 * (3 + (e : Int)).fdiv 3 + 3 + i).toNat).any (· == (3 + (e : Int))) = _
      rw [ef, show (3 * 1 + 3 + (i : Int)).toNat = 6 + i by omega, heads_are (R := RS r0 r1 r2 r3) h1 h2 (6 + i) (by omega)]
      exact hd2 _ _ i hi e e3
    rw [eh, emp_len]
    simp only [en, false_or]
    exact Iff.rfl
theorem end_eL : ∀ i, i < 3 → (endS i).cps.toList = eL i := by
  intro i hi
  obtain rfl | rfl | rfl : i = 0 ∨ i = 1 ∨ i = 2 := by omega
  all_goals decide +kernel
theorem more_A {r0 r1 r2 r3 : Str} {a : List Nat} {i : Nat} (sa : SA (lenA r1.length r2.length r3.length) a) (h : a.length < 3) (hi : i < 3) : moreD (PA r0 r1 r2 r3) (fA r0 r1 r2 r3 a) i = fA r0 r1 r2 r3 (a ++ [i]) := by
  have tx : ∀ r, (RR r1 r2 r3 (a.length + 1)) = r.cps.toList → txA r0 r1 r2 r3 a ++ endS i ++ r = txA r0 r1 r2 r3 (a ++ [i]) := by
    intro r hr
    rw [str_eq, cps_app, cps_app, end_eL i hi, ← hr]
    match a, h with
    | [], _ => simp [txA, tlA]
    | [e], _ => simp [txA, tlA]
    | [d, e], _ => simp [txA, tlA]
  match a, sa, h, tx with
  | [], _, _, tx =>
    have := tx r1 rfl
    unfold moreD fA
    dsimp only [kA]
    rw [show ((-1 : Int).fdiv 3 + 2).toNat = 1 by decide]
    show (⟨((txA r0 r1 r2 r3 [] ++ endS i ++ r1).length : Int), txA r0 r1 r2 r3 [] ++ endS i ++ r1, _⟩ : Dt) = _
    rw [this]
    simp [kA]
  | [e], sa, _, tx =>
    have := tx r2 rfl
    have e3 : e < 3 := sa.2.1 e List.mem_cons_self
    have ef : (e : Int).fdiv 3 = 0 := by rw [Int.fdiv_eq_ediv_of_nonneg _ (by omega)]; omega
    unfold moreD fA
    dsimp only [kA]
    rw [ef, show ((0 : Int) + 2).toNat = 2 by decide]
    show (⟨((txA r0 r1 r2 r3 [e] ++ endS i ++ r2).length : Int), txA r0 r1 r2 r3 [e] ++ endS i ++ r2, _⟩ : Dt) = _
    rw [this]
    simp [kA]
  | [d, e], sa, _, tx =>
    have := tx r3 rfl
    have e3 : e < 3 := sa.2.1 e (List.mem_cons_of_mem _ List.mem_cons_self)
    have ef : (3 + (e : Int)).fdiv 3 = 1 := by rw [Int.fdiv_eq_ediv_of_nonneg _ (by omega)]; omega
    unfold moreD fA
    dsimp only [kA]
    rw [ef, show ((1 : Int) + 2).toNat = 3 by decide]
    show (⟨((txA r0 r1 r2 r3 [d, e] ++ endS i ++ r3).length : Int), txA r0 r1 r2 r3 [d, e] ++ endS i ++ r3, _⟩ : Dt) = _
    rw [this]
    simp [kA]
theorem SA_go {l : Nat → Nat} {a : List Nat} {i : Nat} (sa : SA l a) (h : a.length < 3) (hi : i < 3) (hg : goA l a i = true) : SA l (a ++ [i]) := by
  refine ⟨?_, fun e he => ?_, by simp; omega⟩
  · match a, sa, h, hg with
    | [], _, _, _ => rfl
    | [e], _, _, hg =>
      have : (!(decide (l 1 = 0) && (e == 0 && i == 1))) = true := hg
      show (!(decide (l 1 = 0) && (e == 0 && i == 1)) && true) = true
      rw [this]; rfl
    | [d, e], sa, _, hg =>
      have s1 : (!(decide (l 1 = 0) && (d == 0 && e == 1)) && true) = true := sa.1
      have : (!(decide (l 2 = 0) && (e == 0 && i == 1))) = true := hg
      show (!(decide (l 1 = 0) && (d == 0 && e == 1)) && (!(decide (l 2 = 0) && (e == 0 && i == 1)) && true)) = true
      rw [this]; simpa using s1
  · rcases List.mem_append.mp he with e1 | e1
    · exact sa.2.1 e e1
    · rw [List.mem_singleton.mp e1]; exact hi
theorem push_A {r0 r1 r2 r3 : Str} (h1 : Row r1) (h2 : Row r2) (h3 : Row r3) {a : List Nat} {i : Nat} {q : List (List Nat)} (sa : SA (lenA r1.length r2.length r3.length) a) (h : a.length < 3) (hi : i < 3) (sq : ∀ b ∈ q, SA (lenA r1.length r2.length r3.length) b) :
    pushD (PA r0 r1 r2 r3) (fA r0 r1 r2 r3 a) (q.map (fA r0 r1 r2 r3)) i = (pushA (lenA r1.length r2.length r3.length) a q i).map (fA r0 r1 r2 r3) ∧ ∀ b ∈ pushA (lenA r1.length r2.length r3.length) a q i, SA (lenA r1.length r2.length r3.length) b := by
  unfold pushD pushA
  have hH := H_A (r0 := r0) (r3 := r3) h1 h2 sa h hi
  by_cases hg : goA (lenA r1.length r2.length r3.length) a i = true
  · rw [if_pos hg, if_pos (show (fA r0 r1 r2 r3 a).k = -1 ∨ (PA r0 r1 r2 r3).H (3 * (fA r0 r1 r2 r3 a).k.fdiv 3 + 3 + i) (fA r0 r1 r2 r3 a).k = true from hH.mpr hg), more_A sa h hi]
    have := hpush_map (fA r0 r1 r2 r3) (SA (lenA r1.length r2.length r3.length)) (lt := ltA (lenA r1.length r2.length r3.length)) (lt' := ltD) (fun a b sa sb => lt_A h1 h2 h3 sa sb) (SA_go sa h hi hg) sq
    exact ⟨this.1.symm, this.2⟩
  · rw [if_neg hg, if_neg (show ¬ ((fA r0 r1 r2 r3 a).k = -1 ∨ (PA r0 r1 r2 r3).H (3 * (fA r0 r1 r2 r3 a).k.fdiv 3 + 3 + i) (fA r0 r1 r2 r3 a).k = true) from fun x => hg (hH.mp x))]
    exact ⟨rfl, sq⟩
theorem kA_big {l : Nat → Nat} {a : List Nat} (sa : SA l a) : (5 < kA a ↔ a.length = 3) ∧ -1 ≤ kA a := by
  match a, sa with
  | [], _ => simp [kA]
  | [e], sa =>
    have e3 : e < 3 := sa.2.1 e List.mem_cons_self
    simp [kA]; omega
  | [d, e], sa =>
    have e3 : e < 3 := sa.2.1 e (List.mem_cons_of_mem _ List.mem_cons_self)
    simp [kA]; omega
  | [c, d, e], sa => simp [kA]; omega
  | _ :: _ :: _ :: _ :: _, sa => exact absurd sa.2.2 (by simp)
theorem run_A {r0 r1 r2 r3 : Str} (h0 : Row r0) (h1 : Row r1) (h2 : Row r2) (h3 : Row r3) : ∀ (n : Nat) (q f : List (List Nat)), (∀ b ∈ q, SA (lenA r1.length r2.length r3.length) b) →
    runD (PA r0 r1 r2 r3) n (q.map (fA r0 r1 r2 r3)) (f.map (txA r0 r1 r2 r3)) = (runA (lenA r1.length r2.length r3.length) n q f).map (·.map (txA r0 r1 r2 r3))
  | 0, _, _, _ => rfl
  | n + 1, q, f, sq => by
    unfold runD runA
    rw [List.length_map, List.length_map]
    by_cases hz : 100 < q.length ∨ 100 < f.length
    · rw [if_pos hz, if_pos hz]; rfl
    · rw [if_neg hz, if_neg hz]
      have hm := hpop_map (fA r0 r1 r2 r3) (SA (lenA r1.length r2.length r3.length)) (lt := ltA (lenA r1.length r2.length r3.length)) (lt' := ltD) (fun a b sa sb => lt_A h1 h2 h3 sa sb) sq
      rw [hm.1]
      cases hp : hpop (ltA (lenA r1.length r2.length r3.length)) q with
      | none => rfl
      | some xr =>
        obtain ⟨x, rest⟩ := xr
        obtain ⟨sx, sr⟩ := hm.2 x rest hp
        have kb := kA_big sx
        simp only [Option.map_some]
        by_cases h3' : x.length = 3
        · rw [if_pos h3', if_pos (show 5 < (fA r0 r1 r2 r3 x).k from kb.1.mpr h3')]
          have := run_A h0 h1 h2 h3 n rest (f ++ [x]) sr
          rw [List.map_append] at this
          exact this
        · have hx : x.length < 3 := by have := sx.2.2; omega
          have hl : (fA r0 r1 r2 r3 x).x.length ≤ 50 := by
            show (txA r0 r1 r2 r3 x).length ≤ 50
            rw [txA_len]
            have a1 := nA_le h1.len h2.len h3.len x 1
            have a2 := h0.len
            omega
          rw [if_neg h3', if_neg (show ¬ 5 < (fA r0 r1 r2 r3 x).k from fun e => h3' (kb.1.mp e)), if_pos ⟨kb.2, hl⟩]
          have p0 := push_A (r0 := r0) h1 h2 h3 sx hx (i := 0) (by omega) sr
          have p1 := push_A (r0 := r0) h1 h2 h3 sx hx (i := 1) (by omega) p0.2
          have p2 := push_A (r0 := r0) h1 h2 h3 sx hx (i := 2) (by omega) p1.2
          rw [p0.1, p1.1, p2.1]
          exact run_A h0 h1 h2 h3 n _ f p2.2
noncomputable def dueT (r0 r1 r2 r3 : Str) : List Str := (dueA (lenA r1.length r2.length r3.length)).map (txA r0 r1 r2 r3)
theorem words_S : ∀ a ∈ wordsA, a.length = 3 ∧ ∀ e ∈ a, e < 3 := by decide +kernel
theorem due_S {l : Nat → Nat} : ∀ a ∈ dueA l, SA l a := fun a ha => by
  have h := List.mem_filter.mp ha
  exact ⟨h.2, (words_S a h.1).2, by rw [(words_S a h.1).1]; exact Nat.le_refl _⟩
theorem ltT_lt {r0 r1 r2 r3 : Str} (h1 : Row r1) (h2 : Row r2) (h3 : Row r3) {a b : List Nat} (sa : SA (lenA r1.length r2.length r3.length) a) (sb : SA (lenA r1.length r2.length r3.length) b) (hk : txA r0 r1 r2 r3 a = txA r0 r1 r2 r3 b → kA a = kA b) : ltT (txA r0 r1 r2 r3 a) (txA r0 r1 r2 r3 b) = ltA (lenA r1.length r2.length r3.length) a b := by
  rw [← lt_A (r0 := r0) h1 h2 h3 sa sb]
  show ltT _ _ = ltK ((txA r0 r1 r2 r3 a).length : Int) (txA r0 r1 r2 r3 a) (kA a) ((txA r0 r1 r2 r3 b).length : Int) (txA r0 r1 r2 r3 b) (kA b)
  unfold ltT ltK
  by_cases e : (txA r0 r1 r2 r3 a).length = (txA r0 r1 r2 r3 b).length
  · rw [if_pos e, if_pos (by rw [e])]
    by_cases hx : txA r0 r1 r2 r3 a = txA r0 r1 r2 r3 b
    · rw [if_pos hx, hx, hk hx]; simp
    · rw [if_neg hx]
  · rw [if_neg e, if_neg (by omega), decide_eq_decide]; omega
theorem tx_inj {r0 r1 r2 r3 : Str} (h1 : Row r1) (h2 : Row r2) (h3 : Row r3) {a b : List Nat} (sa : SA (lenA r1.length r2.length r3.length) a) (sb : SA (lenA r1.length r2.length r3.length) b) (hx : txA r0 r1 r2 r3 a = txA r0 r1 r2 r3 b) : a = b := by
  have hx' : tlA (RR r1 r2 r3) 1 a = tlA (RR r1 r2 r3) 1 b := by
    have := congrArg (fun s : Str => s.cps.toList) hx
    simpa [txA] using this
  exact (lex_tl (RR_gt h1 h2 h3) a b 1 sa.2.1 sb.2.1 (by rw [emp_RR]; exact sa.1) (by rw [emp_RR]; exact sb.1) (by rw [hx'])).2 hx'
theorem order_law {r0 r1 r2 r3 : Str} (h0 : Row r0) (h1 : Row r1) (h2 : Row r2) (h3 : Row r3) :
    sortOk (dueT r0 r1 r2 r3) = true ∧ 2 ≤ (dueT r0 r1 r2 r3).length ∧ (dueT r0 r1 r2 r3).length < 64 ∧ runD (PA r0 r1 r2 r3) 60 [⟨r0.length, r0, -1⟩] [] = some (sortS (dueT r0 r1 r2 r3)) := by
  have A := all_A r1.length (by have := h1.len; omega) r2.length (by have := h2.len; omega) r3.length (by have := h3.len; omega)
  unfold allA at A
  simp only [Bool.and_eq_true, decide_eq_true_eq, beq_iff_eq, List.all_eq_true] at A
  obtain ⟨A1, A2, A3, A4, A5, A6⟩ := A
  have hlen : (dueT r0 r1 r2 r3).length = (dueA (lenA r1.length r2.length r3.length)).length := by unfold dueT; rw [List.length_map]
  have tg : ∀ i, i < (dueA (lenA r1.length r2.length r3.length)).length → txt (dueT r0 r1 r2 r3) i = txA r0 r1 r2 r3 ((dueA (lenA r1.length r2.length r3.length)).getD i []) := by
    intro i hi
    simp [txt, dueT, List.getD, hi]
  have cg : ∀ i j, i < (dueA (lenA r1.length r2.length r3.length)).length → j < (dueA (lenA r1.length r2.length r3.length)).length → sLt (dueT r0 r1 r2 r3) i j = sLtA (lenA r1.length r2.length r3.length) (dueA (lenA r1.length r2.length r3.length)) i j := by
    intro i j hi hj
    unfold sLt sLtA
    rw [tg i hi, tg j hj]
    have mi : (dueA (lenA r1.length r2.length r3.length)).getD i [] ∈ dueA (lenA r1.length r2.length r3.length) := by simp [List.getD, hi]
    have mj : (dueA (lenA r1.length r2.length r3.length)).getD j [] ∈ dueA (lenA r1.length r2.length r3.length) := by simp [List.getD, hj]
    exact ltT_lt h1 h2 h3 (due_S _ mi) (due_S _ mj) fun hx => by rw [tx_inj h1 h2 h3 (due_S _ mi) (due_S _ mj) hx]
  have RT := runT_congr cg (kas_sort (dueA (lenA r1.length r2.length r3.length)).length) A2
  refine ⟨?_, by rw [hlen]; exact A5, by rw [hlen]; exact A6, ?_⟩
  · unfold sortOk
    rw [hlen, RT.1, RT.2]
    simp only [Bool.true_and, Bool.and_eq_true, List.all_eq_true, beq_iff_eq]
    exact ⟨fun x hx => decide_eq_true (A3 x hx), A4⟩
  · have R := run_A h0 h1 h2 h3 60 [[]] [] (fun b hb => by rw [List.mem_singleton.mp hb]; exact ⟨rfl, (fun _ h => nomatch h), Nat.zero_le _⟩)
    rw [A1] at R
    have e0 : txA r0 r1 r2 r3 [] = r0 := by rw [str_eq]; simp [txA, tlA]
    have e1 : fA r0 r1 r2 r3 [] = ⟨r0.length, r0, -1⟩ := by unfold fA; rw [e0]; rfl
    rw [List.map_singleton, e1, List.map_nil, Option.map_some, List.map_map] at R
    rw [R]
    unfold sortS
    rw [hlen, RT.2]
    congr 1
    refine List.map_congr_left fun i hi => ?_
    have := A3 i hi
    exact (tg i (by simpa using this)).symm
end Mine
end
section
open PySem PySem.W PyProof.Rows PySem.Calls PyProof.Rows.LCg
set_option maxHeartbeats 1000000
namespace Mine
noncomputable def wordAt (j : Nat) : List Nat := [j / 9, j / 3 % 3, j % 3]
theorem words_at : wordsA = (List.range 27).map wordAt := by decide +kernel
theorem word_lt {j : Nat} (h : j < 27) : j / 9 < 3 ∧ j / 3 % 3 < 3 ∧ j % 3 < 3 := by omega
theorem eats_is {i j : Nat} (hi : i < 3) (hj : j < 3) (r : List Nat) : eats (eL i) r (eL j) = (decide (r = []) && (i == 0 && j == 1)) := by
  obtain rfl | rfl | rfl : i = 0 ∨ i = 1 ∨ i = 2 := by omega
  all_goals
    obtain rfl | rfl | rfl : j = 0 ∨ j = 1 ∨ j = 2 := by omega
    all_goals simp [eats, eL]
theorem nil_len (r : Str) : decide (r.cps.toList = []) = decide (r.length = 0) := by
  rw [decide_eq_decide, ← str_len, List.length_eq_zero_iff]
theorem part_ok {r1 r2 : Str} (h1 : Row r1) (h2 : Row r2) {l3 i j k : Nat} (hi : i < 3) (hj : j < 3) (hk : k < 3) : partB r1 r2 i j k = okA (fun m => decide (lenA r1.length r2.length l3 m = 0)) 1 [i, j, k] := by
  unfold partB partedB
  rw [eats_row h1 hi hj, eats_row h2 hj hk, end_eL i hi, end_eL j hj, end_eL k hk, eats_is hi hj, eats_is hj hk, nil_len, nil_len]
  simp [okA, lenA]
theorem text_is {r0 r1 r2 r3 : Str} {i j k : Nat} (hi : i < 3) (hj : j < 3) (hk : k < 3) : textS r0 r1 r2 r3 i j k = txA r0 r1 r2 r3 [i, j, k] := by
  rw [str_eq]
  simp [textS, txA, tlA, RR, cps_app, end_eL i hi, end_eL j hj, end_eL k hk]
noncomputable def tAt (r0 r1 r2 r3 : Str) (j : Nat) : Str := textS r0 r1 r2 r3 (j / 9) (j / 3 % 3) (j % 3)
noncomputable def pAt (r1 r2 : Str) (j : Nat) : Bool := partB r1 r2 (j / 9) (j / 3 % 3) (j % 3)
theorem due_is {r0 r1 r2 r3 : Str} (h1 : Row r1) (h2 : Row r2) : ((List.range 27).filter (pAt r1 r2)).map (tAt r0 r1 r2 r3) = dueT r0 r1 r2 r3 := by
  unfold dueT dueA
  rw [words_at, List.filter_map, List.map_map]
  have e : (List.range 27).filter (pAt r1 r2) = (List.range 27).filter (okA (fun m => decide (lenA r1.length r2.length r3.length m = 0)) 1 ∘ wordAt) := by
    refine List.filter_congr fun j hj => ?_
    have w := word_lt (List.mem_range.mp hj)
    exact part_ok h1 h2 w.1 w.2.1 w.2.2
  rw [e]
  refine List.map_congr_left fun j hj => ?_
  have w := word_lt (List.mem_range.mp (List.mem_filter.mp hj).1)
  exact text_is w.1 w.2.1 w.2.2
end Mine
end
section
open PySem PySem.W PyProof.Rows PySem.Calls PyProof.Rows.LCg PySem.Spec
set_option maxHeartbeats 1000000
namespace Mine
theorem strs_carried : ∀ q : List (Str × Tok), CarriedAll (strValues q) ((q.map (·.1)).map PyData.str)
  | [] => .nil
  | p :: q => .cons (.str p.1 p.2) (strs_carried q)
theorem strs_canLay : ∀ xs : List Str, (∀ x ∈ xs, PyData.strOk x = true) → PyData.canLayAll0 (xs.map PyData.str) = true
  | [], _ => rfl
  | x :: r, h => by simp [PyData.canLayAll0, PyData.canLay0, strs_canLay r fun y hy => h y (.tail _ hy), h x (.head _)]
theorem strs_depth : ∀ xs : List Str, PyData.depthAll (xs.map PyData.str) = 0
  | [] => rfl
  | _ :: r => by simp [PyData.depthAll, PyData.depth, strs_depth r]
theorem strs_shaped (xs : List Str) (h : ∀ x ∈ xs, PyData.strOk x = true) : SeqAt.shaped (.list (xs.map PyData.str)) = true := by
  simp [SeqAt.shaped, PyData.canLay0, PyData.depth, strs_canLay xs h, strs_depth]
theorem strs_eqv : ∀ xs ys : List Str, PyData.eqvAll (xs.map PyData.str) (ys.map PyData.str) = decide (xs = ys)
  | [], [] => by simp [PyData.eqvAll]
  | [], _ :: _ => by simp [PyData.eqvAll]
  | _ :: _, [] => by simp [PyData.eqvAll]
  | a :: r, b :: t => by
    simp only [List.map_cons, PyData.eqvAll, PyData.eqv, strs_eqv r t]
    by_cases h : a = b <;> by_cases h' : r = t <;> simp [h, h']
theorem strs_eqvL (xs ys : List Str) : PyData.eqv (.list (xs.map PyData.str)) (.list (ys.map PyData.str)) = decide (xs = ys) := by
  simp only [PyData.eqv]; exact strs_eqv xs ys
theorem rows_lt : ∀ x, x < 75 → ((rowS (x : Nat)).cps.toList.all fun c => decide (c < 0x110000)) = true := by decide +kernel
theorem Row.ok {r : Str} (h : Row r) : ∀ c ∈ r.cps.toList, c < 0x110000 := by
  obtain ⟨x, hx, rfl⟩ := h
  intro c hc
  have := List.all_eq_true.mp (rows_lt x hx) c hc
  simpa using this
theorem ok_of {x : Str} (h : ∀ c ∈ x.cps.toList, c < 0x110000) : PyData.strOk x = true := by
  unfold PyData.strOk
  rw [Array.all_eq_true']
  intro c hc
  exact decide_eq_true (h c (by simpa using hc))
theorem eL_ok : ∀ e, ∀ c ∈ eL e, c < 0x110000
  | 0 => by decide
  | 1 => by decide
  | _ + 2 => by simp [eL]
theorem tlA_ok {R : Nat → List Nat} (hR : ∀ m, ∀ c ∈ R m, c < 0x110000) : ∀ (a : List Nat) (m : Nat), ∀ c ∈ tlA R m a, c < 0x110000
  | [], _ => fun _ h => nomatch h
  | e :: es, m => fun c hc => by
    simp only [tlA, List.mem_append] at hc
    rcases hc with hc | hc | hc
    · exact eL_ok e c hc
    · exact hR m c hc
    · exact tlA_ok hR es (m + 1) c hc
theorem txA_ok {r0 r1 r2 r3 : Str} (h0 : Row r0) (h1 : Row r1) (h2 : Row r2) (h3 : Row r3) (a : List Nat) : PyData.strOk (txA r0 r1 r2 r3 a) = true := by
  refine ok_of fun c hc => ?_
  have hc : c ∈ r0.cps.toList ++ tlA (RR r1 r2 r3) 1 a := by simpa [txA] using hc
  rcases List.mem_append.mp hc with hc | hc
  · exact h0.ok c hc
  · refine tlA_ok (fun m => ?_) a 1 c hc
    match m with
    | 0 => exact fun _ h => nomatch h
    | 1 => exact h1.ok
    | 2 => exact h2.ok
    | 3 => exact h3.ok
    | _ + 4 => exact fun _ h => nomatch h
theorem sort_mem {xs : List Str} (h : sortOk xs = true) : ∀ x ∈ sortS xs, x ∈ xs := by
  intro x hx
  unfold sortOk at h
  simp only [Bool.and_eq_true, List.all_eq_true, decide_eq_true_eq] at h
  obtain ⟨j, hj, e⟩ := List.mem_map.mp hx
  have hl := h.2.1 j hj
  rw [← e]
  unfold txt
  simp [List.getD, hl]
theorem due_ok {r0 r1 r2 r3 : Str} (h0 : Row r0) (h1 : Row r1) (h2 : Row r2) (h3 : Row r3) : ∀ x ∈ sortS (dueT r0 r1 r2 r3), PyData.strOk x = true := by
  intro x hx
  have hm := sort_mem (order_law h0 h1 h2 h3).1 x hx
  obtain ⟨a, _, rfl⟩ := List.mem_map.mp hm
  exact txA_ok h0 h1 h2 h3 a
section
variable {prog : Program} {w : World} {A : Around} {E : Value → Shared → Prop} {s : Shared} {a b : Addr} {p q : List (Str × Tok)} {Q : Value → Shared → Prop}
theorem strs_eq (ha : s.heap.IsList a (strValues p).toArray) (hb : s.heap.IsList b (strValues q).toArray) (op : ∀ x ∈ p.map (·.1), PyData.strOk x = true) (oq : ∀ x ∈ q.map (·.1), PyData.strOk x = true) (hu : A.units + 64 < cLine) (h : Q (.bool (decide (p.map (·.1) = q.map (·.1)))) s) :
    wpAny (model prog w) A (compareOp .Eq (.ref a) (.ref b)) Q E s :=
  eq_dataH (reads_newData ha (strs_carried p)) (reads_newData hb (strs_carried q)) (strs_shaped _ op) (strs_shaped _ oq) hu (by rw [strs_eqvL]; exact h)
theorem strs_ne (ha : s.heap.IsList a (strValues p).toArray) (hb : s.heap.IsList b (strValues q).toArray) (op : ∀ x ∈ p.map (·.1), PyData.strOk x = true) (oq : ∀ x ∈ q.map (·.1), PyData.strOk x = true) (hu : A.units + 64 < cLine) (h : Q (.bool (!decide (p.map (·.1) = q.map (·.1)))) s) :
    wpAny (model prog w) A (compareOp .NotEq (.ref a) (.ref b)) Q E s :=
  ne_dataH (reads_newData ha (strs_carried p)) (reads_newData hb (strs_carried q)) (strs_shaped _ op) (strs_shaped _ oq) hu (by rw [strs_eqvL]; exact h)
end
end Mine
end
section
open PySem PySem.W PyProof.Rows PySem.Calls PyProof.Rows.LCg
set_option maxHeartbeats 4000000
namespace Mine
local macro_rules | `(tactic| walk_at $s:str) => wk "ST=subscriptTail;HV=nx_hv;S=call ref|eval ListComp|storeName|call builtin:sum|compareOp Eq ref ref|compareOp NotEq ref ref|CompSrcT|call type:enumerate;T=CompEnd|PElt|PIter;NX=eval Name" s
local macro_rules | `(tactic| walk_at "exec Assign cons ListComp") => `(tactic| (k_here; first | (with_reducible refine wpAny_Assign_Name ?_ (by with_unfolding_all rfl)) | refine nx_stop ?_))
/-- the rows made so far -/
noncomputable def RowsInv (nw0 : Led) (i : Nat) (ys : List Value) (nw : Led) : Prop := nw = nw0 ∧ ∃ q : List (Str × Tok), ys = strValues q ∧ q.length = i ∧ ∀ p ∈ q, Row p.1
/-- the words, by their place -/
noncomputable def WordIn (Wl : Led) (j : Nat) (a : Addr) : Prop := ∃ t0 t1 t2, (a, wordO [.str (endS (j / 9)) t0, .str (endS (j / 3 % 3)) t1, .str (endS (j % 3)) t2]) ∈ Wl
noncomputable def WordsAre (Wl : Led) (wr : List Value) : Prop := wr.length = 27 ∧ ∀ j, j < 27 → ∃ a, wr[j]? = some (.ref a) ∧ WordIn Wl j a
theorem words_are {ws : WList} {mks : List Value} {t : Tok} (hmk : mks = [Value.str (Str.ofString "\r") t, .str (Str.ofString "\n") (t + 1), .str (Str.ofString "\r\n") (t + 1 + 1)])
    (hws : ws.map (·.2) = mks.flatMap fun a => mks.flatMap fun b => mks.map fun c => [a, b, c]) : WordsAre (ws.map fun p => (p.1, wordO p.2)) (ws.map fun p => Value.ref p.1) := by
  have key : (mks.flatMap fun a => mks.flatMap fun b => mks.map fun c => [a, b, c]) = (List.range 27).map fun j => [mks.getD (j / 9) .none, mks.getD (j / 3 % 3) .none, mks.getD (j % 3) .none] := by rw [hmk]; rfl
  have mk : ∀ i, i < 3 → ∃ u, mks.getD i .none = .str (endS i) u := by
    intro i hi
    rw [hmk]
    obtain rfl | rfl | rfl : i = 0 ∨ i = 1 ∨ i = 2 := by omega
    · exact ⟨_, rfl⟩
    · exact ⟨_, rfl⟩
    · exact ⟨_, rfl⟩
  have len : ws.length = 27 := by
    have := congrArg List.length hws
    rw [key, List.length_map, List.length_map, List.length_range] at this
    exact this
  refine ⟨by rw [List.length_map, len], fun j hj => ?_⟩
  have e := congrArg (fun l => l[j]?) hws
  rw [key] at e
  simp only [List.getElem?_map, List.getElem?_range hj, Option.map_some] at e
  obtain ⟨p, hp, e⟩ := Option.map_eq_some_iff.mp e
  obtain ⟨u0, e0⟩ := mk (j / 9) (by omega)
  obtain ⟨u1, e1⟩ := mk (j / 3 % 3) (by omega)
  obtain ⟨u2, e2⟩ := mk (j % 3) (by omega)
  rw [e0, e1, e2] at e
  exact ⟨p.1, by rw [List.getElem?_map, hp]; rfl, u0, u1, u2, List.mem_map.mpr ⟨p, List.mem_of_getElem? hp, by rw [e]⟩⟩
theorem end_len : ∀ k, k < 3 → (endS k).length ≤ 2 := by decide +kernel
noncomputable abbrev pairO (a : Addr) (x : Str) (t : Tok) : Obj := { cls := .type "tuple", data := .seq #[.ref a, .str x t] }
noncomputable def PairsAre (r0 r1 r2 r3 : Str) (Tl : Led) (ys : List Value) (n : Nat) : Prop := ys.length = n ∧ ∀ j, j < n → ∃ T a t, ys[j]? = some (.ref T) ∧ (T, pairO a (tAt r0 r1 r2 r3 j) t) ∈ Tl ∧ WordIn Tl j a
theorem PairsAre.snoc {r0 r1 r2 r3 : Str} {Tl : Led} {ys : List Value} {n : Nat} {T a : Addr} {t : Tok} {x : Str} (h : PairsAre r0 r1 r2 r3 Tl ys n) (hx : x = tAt r0 r1 r2 r3 n) (ha : WordIn Tl n a) : PairsAre r0 r1 r2 r3 ((T, pairO a x t) :: Tl) (ys ++ [.ref T]) (n + 1) := by
  have up : ∀ {j b}, WordIn Tl j b → WordIn ((T, pairO a x t) :: Tl) j b := fun ⟨u0, u1, u2, h⟩ => ⟨u0, u1, u2, .tail _ h⟩
  refine ⟨by simp [h.1], fun j hj => ?_⟩
  by_cases e : j = n
  · subst e
    refine ⟨T, a, t, by rw [List.getElem?_append_right (Nat.le_of_eq h.1)]; simp [h.1], by rw [hx]; exact .head _, up ha⟩
  · obtain ⟨T', a', t', h1, h2, h3⟩ := h.2 j (by omega)
    exact ⟨T', a', t', by rw [List.getElem?_append_left (by rw [h.1]; omega)]; exact h1, .tail _ h2, up h3⟩
/-- apart from what stands ahead in the ledger -/
noncomputable def OffT (xs : List Addr) (Tl : Led) : Prop := ∀ p ∈ Tl, p.1 ∉ xs
noncomputable def PInv (r0 r1 r2 r3 : Str) (xs : List Addr) (fx Wl : Led) (i : Nat) (ys : List Value) (nw : Led) : Prop := ∃ Tl, nw = fx ++ Tl ∧ (∀ p ∈ Wl, p ∈ Tl) ∧ OffT xs Tl ∧ PairsAre r0 r1 r2 r3 Tl ys i
/-- the texts taken so far -/
noncomputable def QInv (p : Nat → Bool) (x : Nat → Str) (nw0 : Led) (i : Nat) (ys : List Value) (nw : Led) : Prop := nw = nw0 ∧ ∃ q : List (Str × Tok), ys = strValues q ∧ q.map (·.1) = ((List.range i).filter p).map x
theorem QInv.len {p : Nat → Bool} {x : Nat → Str} {nw0 : Led} {i : Nat} {ys : List Value} {nw : Led} (h : QInv p x nw0 i ys nw) : ys.length ≤ i := by
  obtain ⟨_, q, rfl, hq⟩ := h
  have := congrArg List.length hq
  rw [List.length_map, List.length_map] at this
  have l := List.length_filter_le p (List.range i)
  rw [List.length_range] at l
  simp [strValues]; omega
theorem QInv.yes {p : Nat → Bool} {x : Nat → Str} {nw0 : Led} {i : Nat} {ys : List Value} {nw : Led} {t : Tok} (h : QInv p x nw0 i ys nw) (hp : p i = true) : QInv p x nw0 (i + 1) (ys ++ [.str (x i) t]) nw0 := by
  obtain ⟨_, q, rfl, hq⟩ := h
  refine ⟨rfl, q ++ [(x i, t)], by simp [strValues], ?_⟩
  rw [List.map_append, hq, List.range_succ, List.filter_append, List.map_append]
  simp [hp]
theorem QInv.no {p : Nat → Bool} {x : Nat → Str} {nw0 : Led} {i : Nat} {ys : List Value} {nw : Led} (h : QInv p x nw0 i ys nw) (hp : p i = false) : QInv p x nw0 (i + 1) ys nw0 := by
  obtain ⟨_, q, rfl, hq⟩ := h
  refine ⟨rfl, q, rfl, ?_⟩
  rw [hq, List.range_succ, List.filter_append, List.map_append]
  simp [hp]
theorem news_new {g h h' : Heap} {L D : Addr} {m : Loc} {nw : Led} {o : Obj} (F : Fr g L h m) (N : News g L h nw) (k : Keeps h h') (hn : h.get? D = none) (hD : h'.get? D = some o) : Fr g L h' m ∧ News g L h' ((D, o) :: nw) ∧ ∀ p ∈ nw, p.1 ≠ D := by
  refine ⟨F.keeps k, fun p hp => ?_, fun p hp e => ?_⟩
  · rcases List.mem_cons.mp hp with e | hp
    · rw [e]
      refine ⟨hD, fun e => ?_, ?_⟩
      · obtain ⟨o, _, _, e1, _⟩ := F.ns
        have e : D = L := e
        rw [e, e1] at hn; cases hn
      · cases q : g.get? D with
        | none => rfl
        | some o => rw [F.keep _ _ q] at hn; cases hn
    · exact N.grown k p hp
  · have := (N p hp).1
    rw [e, hn] at this; cases this
theorem tAt_len {r0 r1 r2 r3 : Str} (h0 : Row r0) (h1 : Row r1) (h2 : Row r2) (h3 : Row r3) {j : Nat} (hj : j < 27) : (tAt r0 r1 r2 r3 j).length ≤ 100 := by
  have w := word_lt hj
  have e0 := end_len _ w.1
  have e1 := end_len _ w.2.1
  have e2 := end_len _ w.2.2
  have a0 := h0.len
  have a1 := h1.len
  have a2 := h2.len
  have a3 := h3.len
  show (r0 ++ (endS (j / 9) ++ r1) ++ (endS (j / 3 % 3) ++ r2) ++ (endS (j % 3) ++ r3)).length ≤ 100
  simp only [Str.length_append]
  omega
theorem q_len {r0 r1 r2 r3 : Str} (h0 : Row r0) (h1 : Row r1) (h2 : Row r2) (h3 : Row r3) {q : List (Str × Tok)} {p : Nat → Bool} (hq : q.map (·.1) = ((List.range 27).filter p).map (tAt r0 r1 r2 r3)) : ∀ x ∈ q, x.1.length ≤ 100 := by
  intro x hx
  have hm : x.1 ∈ q.map (·.1) := List.mem_map_of_mem hx
  rw [hq] at hm
  obtain ⟨j, hj, e⟩ := List.mem_map.mp hm
  rw [← e]
  exact tAt_len h0 h1 h2 h3 (List.mem_range.mp (List.mem_filter.mp hj).1)
theorem news_more {g h h' : Heap} {L : Addr} {m : Loc} {nw Wt : Led} (F : Fr g L h m) (N : News g L h nw) (k : Keeps h h') (hW : ∀ p ∈ Wt, h'.get? p.1 = some p.2 ∧ h.get? p.1 = none) : News g L h' (nw ++ Wt) := fun p hp => by
  rcases List.mem_append.mp hp with hp | hp
  · exact N.grown k p hp
  · obtain ⟨h1, hn⟩ := hW p hp
    refine ⟨h1, fun e => ?_, ?_⟩
    · obtain ⟨o, _, _, e1, _⟩ := F.ns
      have e : p.1 = L := e
      rw [e, e1] at hn; cases hn
    · cases q : g.get? p.1 with
      | none => rfl
      | some o => rw [F.keep _ _ q] at hn; cases hn
section
variable {w : World} {mean : ExcName → Option Value} {mg mb : Str → Option Value} {g : Heap} {gs : Array GenState} {dr : Drawn} {tk : Nat} {os : OsState} {Q E : Value → Shared → Prop}
theorem c_law (C : Cx w mean mg mb 5 g [] g) {sa : Addr} {vs : List Value} {ns : List Int} (hL : g.IsList sa vs.toArray) (hI : IntsAre vs ns) (hc : ns.length ≤ 63)
   (ret : ∀ h' tk', Keeps g h' → Q (.bool true) ⟨h', gs, dr, tk', os⟩) :
   wpAny (model Challenge.rw_ny0273_01.row.prog w) (AA 5 []) (call (.ref 263) [.ref sa]) Q E ⟨g, gs, dr, tk, os⟩ := by
  have X := C.X; revert X; k_fill; intro X
  refine wpAny_call ?_
  refine' enterC [(Str.ofString "script", .ref sa)] C ?ho ?hcd ?hb ?hl ?c4 ?c1 ?c2 ?c3 ?_
  k_dflt ((case ho => k_is); (case hcd => k_is); (case hb => exact BindsTo.of_eq rfl); (case c4 => decide +kernel); (case hl => exact rfl); (case c1 => exact rfl); (case c2 => exact rfl); (case c3 => exact rfl); k_whole)
  intro g' L h1 tk1 cells eg F1 N1 Y1 B1 X1 T1
  obtain rfl : g' = g := eg
  k_cells Y1
  simp only [List.cons_append, List.nil_append] at N1
  (try dsimp only)
  (try k_fold)
  k_steps
  unfold NxStop
  rename Fr _ _ _ _ => F2
  rename News _ _ _ _ => N2
  rename_i oG oM oA oS dG dM dA dS
  replace dG : oG.data = .cell none := dG
  replace dM : oM.data = .cell none := dM
  replace dA : oA.data = .cell none := dA
  replace dS : oS.data = .cell (some (.ref sa)) := dS
  refine pair_eval F2 (by rfl) (by rfl) (by decide) ?_
  k_steps
  unfold NxStop
  rename Fr _ _ _ _ => F3
  rename News _ _ _ _ => N3
  rename_i lm _ lml
  refine enum_comp (G := RowsInv [(lm, W.listOf #[Value.int 1 tk1, .int 0 (tk1 + 1), .int 32 (tk1 + 1 + 1), .int 4 (tk1 + 1 + 1 + 1)] 0), (L + 1 + 1 + 1 + 1, oG), (L + 1 + 1 + 1, oM), (L + 1 + 1, oA), (L + 1, oS)]) rfl F3 N3 (.head _) (n := 4) rfl (by rw [sizeLine_eq]; omega) (by decide) rfl rfl rfl (by decide) ?hlen ?hGs ?hG (fun _ _ _ => rfl) (fun _ _ _ => rfl) ?turn ?fin
  case hlen => rintro i ys nw ⟨rfl, q, rfl, hq, _⟩; simp [strValues, hq]
  case hGs => rintro i ys nw ⟨rfl, _⟩; exact .head _
  case hG => exact ⟨rfl, [], rfl, rfl, fun _ h => nomatch h⟩
  case turn =>
    rintro i ys nw t v I oI J oJ C' oC D m₂ h tk₂ E' hi ⟨rfl, q, rfl, hq, hR⟩ hv hoC ha hb F4 N4 off
    obtain ⟨k, tv, rfl, hk0, hk1⟩ : ∃ (k : Int) (tv : Tok), v = .int k tv ∧ 0 ≤ k ∧ k ≤ 32 := by
      obtain rfl | rfl | rfl | rfl : i = 0 ∨ i = 1 ∨ i = 2 ∨ i = 3 := by omega
      all_goals
        cases hv
        exact ⟨_, _, rfl, by decide, by decide⟩
    k_steps
    unfold NxStop
    rename Fr _ _ _ _ => F5
    rename News _ _ _ _ => N5
    refine sumK rfl F5 N5 (PySem.IsL.isList (N5 _ (.head _)).1) (hI.pick (some (i : Int)) (some 60) (some 4)) fun h6 tk6 t6 F6 N6 => ?_
    have hnz : (0 : Int) ≤ (k + (pickNums ns (some (i : Int)) (some 60) (some 4)).sum).fmod 75 ∧ (k + (pickNums ns (some (i : Int)) (some 60) (some 4)).sum).fmod 75 < 75 := by
      rw [Int.fmod_eq_emod_of_nonneg _ (by decide)]; omega
    k_steps
    unfold NxStop
    rename Fr _ _ _ _ => F7
    rename News _ _ _ _ => N7
    refine wp_callG (r := 0) (by omega) ?_
    refine c_row (cx_callG (news := []) B1 X1 T1 F7 (fun _ h => nomatch h) rfl rfl) _ _ hnz.1 hnz.2 fun t8 h8 tk8 k8 => ?_
    have F8 := F7.keeps k8
    have N8 := N7.grown k8
    obtain ⟨x, hx, hx75⟩ : ∃ x : Nat, (k + (pickNums ns (some (i : Int)) (some 60) (some 4)).sum).fmod 75 = (x : Int) ∧ x < 75 := ⟨((k + (pickNums ns (some (i : Int)) (some 60) (some 4)).sum).fmod 75).toNat, by omega, by omega⟩
    rw [hx]
    refine PElt.intro F8 N8 _ (fun p hp => .tail _ hp) off trivial ⟨rfl, q ++ [(rowS x, t8)], by simp [strValues], by simp [hq], fun p hp => ?_⟩
    rcases List.mem_append.mp hp with hp | hp
    · exact hR p hp
    · rw [List.mem_singleton.mp hp]; exact ⟨x, hx75, rfl⟩
  case fin =>
    rintro ys nw D h6 tk6 ⟨rfl, q, rfl, hq, hR⟩ F6 N6 off6
    obtain ⟨r0, t0, r1, t1, r2, t2, r3, t3, rfl⟩ : ∃ r0 t0 r1 t1 r2 t2 r3 t3, q = [(r0, t0), (r1, t1), (r2, t2), (r3, t3)] := by
      obtain ⟨a, b, c, d, rfl⟩ := list4 hq
      exact ⟨a.1, a.2, b.1, b.2, c.1, c.2, d.1, d.2, rfl⟩
    have R0 := hR (r0, t0) (by simp)
    have R1 := hR (r1, t1) (by simp)
    have R2 := hR (r2, t2) (by simp)
    have R3 := hR (r3, t3) (by simp)
    dsimp only at R0 R1 R2 R3
    clear hR hq F3 N3 hL hI
    k_steps
    unfold NxStop
    have ne : ∀ {a b : Nat}, (a < b ∨ b < a) → (a : Addr) ≠ (b : Addr) := fun h e => by omega
    have N6' : News g' L h6 [(D, LCg.lst (strValues [(r0, t0), (r1, t1), (r2, t2), (r3, t3)])), (L + 1 + 1 + 1 + 1, oG), (L + 1 + 1 + 1, oM), (L + 1 + 1, oA), (L + 1, oS)] := pick N6 [0] 2
    have D4 : @Ne Nat D (L + 1 + 1 + 1 + 1) := Ne.symm (off6 _ (.tail _ (.head _)))
    have D3 : @Ne Nat D (L + 1 + 1 + 1) := Ne.symm (off6 _ (.tail _ (.tail _ (.head _))))
    have D2 : @Ne Nat D (L + 1 + 1) := Ne.symm (off6 _ (.tail _ (.tail _ (.tail _ (.head _)))))
    clear N6 off6 lml
    refine storeX_C F6 N6' rfl (.tail D2 (.tail (ne (by omega)) (.tail (ne (by omega)) (.head fun p hp => ?ua)))) dA fun h7 oA' F7 N7 dA' => ?_
    case ua => rw [List.mem_singleton.mp hp]; exact ne (by omega)
    clear F6 N6' dA
    k_steps
    unfold NxStop
    rename Fr _ _ _ _ => F8
    rename News _ _ _ _ => N8
    rename_i M h8 lM
    have ltM : ∀ {x : Nat}, x < M → (M : Addr) ≠ x := fun h => Nat.ne_of_gt h
    refine storeX_C F8 N8 rfl (.tail (ltM lM.2.2.1) (.tail D3 (.tail (ne (by omega)) (.head fun p hp => ?ub)))) dM fun h9 oM' F9 N9 dM' => ?_
    case ub =>
      simp only [List.mem_cons, List.not_mem_nil, or_false] at hp
      rcases hp with e | e <;> rw [e] <;> exact ne (by omega)
    clear F8 N8 dM
    obtain ⟨mks, hmk⟩ : ∃ mks, mks = [Value.str (Str.ofString "\r") tk, .str (Str.ofString "\n") (tk + 1), .str (Str.ofString "\r\n") (tk + 1 + 1)] := ⟨_, rfl⟩
    rw [show W.listOf #[Value.str (Str.ofString "\r") tk, .str (Str.ofString "\n") (tk + 1), .str (Str.ofString "\r\n") (tk + 1 + 1)] 0 = W.listOf mks.toArray 0 by rw [hmk]] at N9
    k_steps
    unfold NxStop
    refine nest_assign rfl F9 N9 rfl (.tail _ (.tail _ (.tail _ (.head _)))) dM' (.head _) rfl rfl (by rw [hmk]; rfl) (by with_unfolding_all rfl) (by rfl) (by decide) rfl (by decide) rfl rfl rfl (by decide) (by decide) (by decide) (by decide) (by decide) (by decide) (by decide) rfl rfl rfl rfl (fun _ => rfl) rfl (fun _ _ _ _ => rfl) (fun _ _ _ _ => rfl) fun ws Wd h10 tk10 F10 N10 offw wW hws => ?_
    clear N9 F9
    obtain ⟨Wl, hWl⟩ : ∃ Wl : Led, Wl = ws.map fun p => (p.1, wordO p.2) := ⟨_, rfl⟩
    obtain ⟨wr, hwr⟩ : ∃ wr : List Value, wr = ws.map fun p => Value.ref p.1 := ⟨_, rfl⟩
    rw [← hWl, ← hwr] at N10
    have N11 : News g' L h10 ((Wd, LCg.lst wr) :: (M, W.listOf mks.toArray 0) :: (D, LCg.lst (strValues [(r0, t0), (r1, t1), (r2, t2), (r3, t3)])) :: (L + 1 + 1 + 1 + 1, oG) :: (L + 1 + 1 + 1, oM') :: (L + 1 + 1, oA') :: (L + 1, oS) :: Wl) := mem_rot N10
    k_steps
    unfold NxStop
    have WA := words_are hmk hws
    rw [← hWl, ← hwr] at WA
    have owl : OffT [Wd, M, D, L + 1 + 1 + 1 + 1, L + 1 + 1 + 1, L + 1 + 1, L + 1] Wl := by
      intro p hp
      rw [hWl] at hp
      obtain ⟨q, hq, e⟩ := List.mem_map.mp hp
      rw [← e]
      exact nm (wW q hq) (nm ((offw _ (.head _)).2 q hq) (nm ((offw _ (.tail _ (.head _))).2 q hq) (nm ((offw _ (.tail _ (.tail _ (.head _)))).2 q hq) (nm ((offw _ (.tail _ (.tail _ (.tail _ (.head _))))).2 q hq) (nm ((offw _ (.tail _ (.tail _ (.tail _ (.tail _ (.head _)))))).2 q hq) (nm ((offw _ (.tail _ (.tail _ (.tail _ (.tail _ (.tail _ (.head _))))))).2 q hq) List.not_mem_nil))))))
    have WdM : @Ne Nat Wd M := Ne.symm (offw _ (.head _)).1
    have WdD : @Ne Nat Wd D := Ne.symm (offw _ (.tail _ (.head _))).1
    have Wd4 : @Ne Nat Wd (L + 1 + 1 + 1 + 1) := Ne.symm (offw _ (.tail _ (.tail _ (.head _)))).1
    clear N10 offw wW hws hWl hwr
    rename Fr _ _ _ _ => F11
    have ZZ : ∀ p ∈ [(r0, t0), (r1, t1), (r2, t2), (r3, t3)], (p : Str × Tok).1.length ≤ 2 := by
      exact all_cons R0.len (all_cons R1.len (all_cons R2.len (all_cons R3.len all_nil)))
    refine wp_callG (r := 0) (by omega) ?_
    refine c_sent (ra := D) (l := [(r0, t0), (r1, t1), (r2, t2), (r3, t3)]) (cx_callG (news := []) B1 X1 T1 F11 (fun _ h => nomatch h) rfl rfl) (PySem.IsL.isList (N11 _ (.tail _ (.tail _ (.head _)))).1) (Nat.le_refl _) ZZ fun t12 h12 tk12 k12 => ?_
    have F12 := F11.keeps k12
    have N12 := N11.grown k12
    clear F11 N11
    rw [show Txt.join (Str.ofString "\r\n") (List.map (fun p : Str × Tok => sentRow p.1) [(r0, t0), (r1, t1), (r2, t2), (r3, t3)]) = goalS r0 r1 r2 r3 from rfl]
    obtain ⟨gl, hgl⟩ : ∃ gl, gl = goalS r0 r1 r2 r3 := ⟨_, rfl⟩
    rw [← hgl]
    k_steps
    unfold NxStop
    refine storeX_C F12 N12 rfl (.tail Wd4 (.tail (ltM lM.2.1) (.tail D4 (.head fun p hp => ?uc)))) dG fun h13 oG' F13 N13 dG' => ?_
    case uc =>
      rcases List.mem_cons.mp hp with e | hp
      · rw [e]; exact ne (by omega)
      rcases List.mem_cons.mp hp with e | hp
      · rw [e]; exact ne (by omega)
      rcases List.mem_cons.mp hp with e | hp
      · rw [e]; exact ne (by omega)
      · exact fun e => owl p hp (by rw [e]; simp)
    clear F12 N12 dG
    let K6 : Led → Led := fun Z => (M, W.listOf mks.toArray 0) :: (D, LCg.lst (strValues [(r0, t0), (r1, t1), (r2, t2), (r3, t3)])) :: (L + 1 + 1 + 1 + 1, oG') :: (L + 1 + 1 + 1, oM') :: (L + 1 + 1, oA') :: (L + 1, oS) :: Z
    replace N13 : News g' L h13 ((Wd, LCg.lst wr) :: K6 Wl) := N13
    k_steps
    unfold NxStop
    refine LCg.Assign_ListComp_U F13 (by rfl) (by with_unfolding_all rfl) (by rfl) (by decide) (by rfl) (by decide) (by rfl) (by rfl) (by rfl) ?_
    k_steps
    (try unfold NxStop)
    rename Fr _ _ _ _ => F14
    rename News _ _ _ _ => N14
    refine CompSrc.ledger rfl F14 N14 (.head _) (by rw [List.size_toArray, WA.1, sizeLine_eq]; omega) fun g15 => ?_
    refine comp_ind (PInv r0 r1 r2 r3 [Wd, M, D, L + 1 + 1 + 1 + 1, L + 1 + 1 + 1, L + 1 + 1, L + 1] ((Wd, LCg.lst wr) :: K6 []) Wl) 27 ?turnp ?finp _ 0 [] _ (by rw [List.size_toArray, WA.1]) ⟨Wl, rfl, fun _ h => h, owl, rfl, fun _ h => absurd h (Nat.not_lt_zero _)⟩
    case turnp =>
      rintro i ys nw v I oI C' oC D' m₂ h tk₂ E' hi ⟨Tl, rfl, hWT, oT, hps⟩ hP hC hx F2 N2 off ne2
      obtain ⟨a, ha, u0, u1, u2, hw⟩ := WA.2 i hi
      have hv : v = .ref a := by
        have hP' : wr[i]? = some v := by simpa using hP
        exact Option.some.inj (hP'.symm.trans ha)
      subst hv
      have hwT := hWT _ hw
      have N2' : News g' L h ((I, oI) :: (C', oC) :: (D', LCg.lst ys) :: (Wd, LCg.lst wr) :: K6 Tl) := N2
      clear N2
      k_steps
      unfold NxStop
      refine wp_callG (r := 0) (by omega) ?_
      refine c_written (cx_callG (news := []) B1 X1 T1 F2 (fun _ h => nomatch h) rfl rfl) (PySem.IsL.isList (N2' _ (.tail _ (.tail _ (.tail _ (.tail _ (.tail _ (.head _))))))).1) (PySem.IsL.isList (N2' _ (.tail _ (.tail _ (.tail _ (.tail _ (.tail _ (.tail _ (.tail _ (.tail _ (.tail _ (.tail _ hwT))))))))))).1) R0.len R1.len R2.len R3.len (end_len _ (by omega)) (end_len _ (by omega)) (end_len _ (by omega)) fun t16 h16 tk16 k16 => ?_
      have F16 := F2.keeps k16
      have N16 := N2'.grown k16
      clear N2' F2
      rw [show r0 ++ (endS (i / 9) ++ r1) ++ (endS (i / 3 % 3) ++ r2) ++ (endS (i % 3) ++ r3) = tAt r0 r1 r2 r3 i from rfl]
      obtain ⟨xt, hxt⟩ : ∃ xt, xt = tAt r0 r1 r2 r3 i := ⟨_, rfl⟩
      rw [← hxt]
      k_steps
      unfold NxStop
      rename Fr _ _ _ _ => F17
      rename News _ _ _ _ => N17
      rename_i T hT17 lT
      have lT' : ∀ x, x ∈ [I, C', D', Wd, M, D, L + 1 + 1 + 1 + 1, L + 1 + 1 + 1, L + 1 + 1, L + 1] → x < T := all_cons lT.1 (all_cons lT.2.1 (all_cons lT.2.2.1 (all_cons lT.2.2.2.1 (all_cons lT.2.2.2.2.1 (all_cons lT.2.2.2.2.2.1 (all_cons lT.2.2.2.2.2.2.1 (all_cons lT.2.2.2.2.2.2.2.1 (all_cons lT.2.2.2.2.2.2.2.2.1 (all_cons lT.2.2.2.2.2.2.2.2.2.1 all_nil)))))))))
      refine CompEnd.intro F17 N17 (((Wd, LCg.lst wr) :: K6 []) ++ ((T, pairO a xt t16) :: Tl)) (picks [1, 2, 3, 4, 5, 6, 7, 8, 9, 10, 0] 11) (Off3.of fun p hp => ?_) (.inr ⟨_, .head _, rfl, _, rfl⟩) ⟨_, rfl, fun p hp => .tail _ (hWT p hp), fun p hp => ?_, hps.snoc hxt ⟨u0, u1, u2, hwT⟩⟩
      · rcases List.mem_append.mp hp with hp | hp
        · exact off.mem p (List.mem_append_left _ hp)
        · rcases List.mem_cons.mp hp with e | hp
          · rw [e]; exact ⟨Nat.ne_of_gt lT.1, Nat.ne_of_gt lT.2.1, Nat.ne_of_gt lT.2.2.1⟩
          · exact off.mem p (List.mem_append_right _ hp)
      · rcases List.mem_cons.mp hp with e | hp
        · rw [e]; intro hm
          exact Nat.lt_irrefl _ (lT' _ (List.mem_cons_of_mem _ (List.mem_cons_of_mem _ (List.mem_cons_of_mem _ hm))))
        · exact oT p hp
    case finp =>
      rintro ys nw ⟨Tl, rfl, hWT, oT, hps⟩
      intro Pr h tk₂ F2 N2 off
      have N2' : News g' L h ((Pr, LCg.lst ys) :: (Wd, LCg.lst wr) :: K6 Tl) := N2
      clear N2 N14 F14 owl WA
      k_steps
      unfold NxStop
      refine pair_eval F2 (by rfl) (by rfl) (by decide) ?_
      k_steps
      (try unfold NxStop)
      rename Fr _ _ _ _ => F3
      rename News _ _ _ _ => N3
      have offP : ∀ x, x ∈ [Wd, M, D, L + 1 + 1 + 1 + 1, L + 1 + 1 + 1, L + 1 + 1, L + 1] → @Ne Nat x Pr := by
        exact all_cons off.1 (all_cons off.2.1 (all_cons off.2.2.1 (all_cons off.2.2.2.1 (all_cons off.2.2.2.2.1 (all_cons off.2.2.2.2.2.1 (all_cons off.2.2.2.2.2.2.1 all_nil))))))
      have hitsP : ∀ (i : Nat) (v : Value), ys.toArray[i]? = some v → ∃ T, v = Value.ref T := by
        intro i v hv
        have hv' : ys[i]? = some v := by simpa using hv
        have hi : i < 27 := by rw [← hps.1]; exact (List.getElem?_eq_some_iff.mp hv').1
        obtain ⟨T, a, t, e, _⟩ := hps.2 i hi
        exact ⟨T, Option.some.inj (hv'.symm.trans e)⟩
      have hTP : ∀ (i : Nat) (v : Value) (nw : Led), ys.toArray[i]? = some v → (∀ p ∈ Tl, p ∈ nw) → ∃ T v₁ v₂ ot nt, v = .ref T ∧ (T, ot) ∈ nw ∧ ot.cls = .type "tuple" ∧ ot.data = .seq #[v₁, v₂] nt ∧ (∃ a t, v₁ = .ref a ∧ v₂ = .str (tAt r0 r1 r2 r3 i) t ∧ WordIn Tl i a) := by
        intro i v nw hv hn
        have hv' : ys[i]? = some v := by simpa using hv
        have hi : i < 27 := by rw [← hps.1]; exact (List.getElem?_eq_some_iff.mp hv').1
        obtain ⟨T, a, t, e, hm, hw⟩ := hps.2 i hi
        exact ⟨T, .ref a, .str (tAt r0 r1 r2 r3 i) t, pairO a (tAt r0 r1 r2 r3 i) t, 0, Option.some.inj (hv'.symm.trans e), hn _ hm, rfl, rfl, a, t, rfl, rfl, hw⟩
      refine PIter.list (G := QInv (pAt r1 r2) (tAt r0 r1 r2 r3) ((Pr, LCg.lst ys) :: (Wd, LCg.lst wr) :: K6 Tl)) (n := 27) (V := fun i v₁ v₂ => ∃ a t, v₁ = .ref a ∧ v₂ = .str (tAt r0 r1 r2 r3 i) t ∧ WordIn Tl i a) rfl F3 N3 (.head _) (by rw [List.size_toArray, hps.1]) (by rw [sizeLine_eq]; omega) (by decide) rfl rfl rfl (by decide) (fun i ys nw h => h.len) ?hT hitsP ?hGs ⟨rfl, [], rfl, rfl⟩ (fun _ _ _ => rfl) (fun _ _ _ => rfl) ?turnd ?find
      case hT =>
        rintro i v ys2 nw hv ⟨rfl, _⟩
        exact hTP i v _ hv fun p hp => .tail _ (.tail _ (.tail _ (.tail _ (.tail _ (.tail _ (.tail _ (.tail _ hp)))))))
      case hGs => rintro i ys2 nw ⟨rfl, _⟩; exact .head _
      case turnd =>
        rintro i ys2 nw v₁ v₂ I oI C' oC D' m₂ h4 tk₄ E' hi hG ⟨a, tt, rfl, rfl, u0, u1, u2, hw⟩ hoC ha hb F4 N4 off4
        obtain rfl := hG.1
        obtain ⟨xt, hxt⟩ : ∃ xt, xt = tAt r0 r1 r2 r3 i := ⟨_, rfl⟩
        rw [← hxt] at hb
        k_steps
        unfold NxStop
        refine wp_callG (r := 0) (by omega) ?_
        refine c_parted (cx_callG (news := []) B1 X1 T1 F4 (fun _ h => nomatch h) rfl rfl) (PySem.IsL.isList (N4 _ (.tail _ (.tail _ (.tail _ (.tail _ (.tail _ (.tail _ (.tail _ (.head _))))))))).1) (PySem.IsL.isList (N4 _ (.tail _ (.tail _ (.tail _ (.tail _ (.tail _ (.tail _ (.tail _ (.tail _ (.tail _ (.tail _ (.tail _ (.tail _ hw))))))))))))).1) R0.len R1.len R2.len R3.len (end_len _ (by omega)) (end_len _ (by omega)) (end_len _ (by omega)) fun h5 tk5 k5 => ?_
        have F5 := F4.keeps k5
        have N5 := N4.grown k5
        clear N4 F4
        rw [show partedB r1 r2 (endS (i / 9)) (endS (i / 3 % 3)) (endS (i % 3)) = pAt r1 r2 i from rfl]
        cases hpi : pAt r1 r2 i with
        | true =>
          k_steps
          unfold NxStop
          rename Fr _ _ _ _ => F6
          rename News _ _ _ _ => N6
          exact PElt.intro F6 N6 _ (fun p hp => hp) off4 trivial (hxt ▸ hG.yes hpi)
        | false =>
          k_steps
          unfold NxStop
          rename Fr _ _ _ _ => F6
          rename News _ _ _ _ => N6
          exact PElt.intro F6 N6 _ (fun p hp => hp) off4 trivial (hG.no hpi)
      case find =>
        rintro _ _ D2 h6 tk6 ⟨rfl, q, rfl, hq⟩ F6 N6 off6
        clear F3 N3
        rw [due_is R1 R2] at hq
        have OL := order_law R0 R1 R2 R3
        have hql : q.length = (dueT r0 r1 r2 r3).length := by rw [← hq, List.length_map]
        k_steps
        unfold NxStop
        rename Fr _ _ _ _ => F7
        rename News _ _ _ _ => N7
        refine wp_callG (r := 0) (by omega) ?_
        refine c_size (l := q) (cx_callG (news := []) B1 X1 T1 F7 (fun _ h => nomatch h) rfl rfl) (PySem.IsL.isList (N7 _ (.head _)).1) (by rw [hql]; exact OL.2.1) (by rw [hql]; exact OL.2.2.1) (q_len R0 R1 R2 R3 (hq.trans (due_is R1 R2).symm)) (by rw [hq]; exact OL.1) fun Du qd cd h8 tk8 k8 nDu gDu hqd => ?_
        obtain ⟨F8, N8, off8⟩ := news_new F7 N7 k8 nDu gDu
        rw [hq] at hqd
        clear F7 N7 k8 nDu gDu
        have N9 : News g' L h8 ((Du, W.listOf (strValues qd).toArray cd) :: (Pr, LCg.lst ys) :: (Wd, LCg.lst wr) :: K6 Tl) := pick N8 [0] 2
        have off9 : ∀ p ∈ (Pr, LCg.lst ys) :: (Wd, LCg.lst wr) :: K6 Tl, p.1 ≠ Du := fun p hp => off8 p (.tail _ hp)
        clear N8 off8
        k_steps
        unfold NxStop
        refine storeX_L F8 N9 fun h10 F10 N10 => ?_
        clear F8 N9
        k_steps
        unfold NxStop
        clear hq hql off6 q hTP
        have hTQ : ∀ (i : Nat) (v : Value) (nw : Led), ys.toArray[i]? = some v → (∀ p ∈ Tl, p ∈ nw) → ∃ T v₁ v₂ ot nt, v = .ref T ∧ (T, ot) ∈ nw ∧ ot.cls = .type "tuple" ∧ ot.data = .seq #[v₁, v₂] nt ∧ (∃ a t, v₁ = .ref a ∧ v₂ = .str (tAt r0 r1 r2 r3 i) t) := by
          intro i v nw hv hn
          have hv' : ys[i]? = some v := by simpa using hv
          have hi : i < 27 := by rw [← hps.1]; exact (List.getElem?_eq_some_iff.mp hv').1
          obtain ⟨T, a, t, e, hm, hw⟩ := hps.2 i hi
          exact ⟨T, .ref a, .str (tAt r0 r1 r2 r3 i) t, pairO a (tAt r0 r1 r2 r3 i) t, 0, Option.some.inj (hv'.symm.trans e), hn _ hm, rfl, rfl, a, t, rfl, rfl⟩
        refine pair_eval F10 (by rfl) (by rfl) (by decide) ?_
        k_steps
        (try unfold NxStop)
        rename Fr _ _ _ _ => F11
        rename News _ _ _ _ => N11
        refine PIter.list (G := QInv (pAt r1 r2) (tAt r0 r1 r2 r3) ((Du, W.listOf (strValues qd).toArray cd) :: (Pr, LCg.lst ys) :: (Wd, LCg.lst wr) :: K6 Tl)) (n := 27) (V := fun i v₁ v₂ => ∃ a t, v₁ = .ref a ∧ v₂ = .str (tAt r0 r1 r2 r3 i) t) rfl F11 N11 (.tail _ (.head _)) (by rw [List.size_toArray, hps.1]) (by rw [sizeLine_eq]; omega) (by decide) rfl rfl rfl (by decide) (fun i ys nw h => h.len) ?hTq hitsP ?hGq ⟨rfl, [], rfl, rfl⟩ (fun _ _ _ => rfl) (fun _ _ _ => rfl) ?turnq ?finq
        case hTq =>
          rintro i v ys2 nw hv ⟨rfl, _⟩
          exact hTQ i v _ hv fun p hp => .tail _ (.tail _ (.tail _ (.tail _ (.tail _ (.tail _ (.tail _ (.tail _ (.tail _ hp))))))))
        case hGq => rintro i ys2 nw ⟨rfl, _⟩; exact .tail _ (.head _)
        case turnq =>
          rintro i ys2 nw v₁ v₂ I oI C' oC D' m₂ h4 tk₄ E' hi hG ⟨a, tt, rfl, rfl⟩ hoC ha hb F4 N4 off4
          obtain rfl := hG.1
          obtain ⟨xt, hxt⟩ : ∃ xt, xt = tAt r0 r1 r2 r3 i := ⟨_, rfl⟩
          rw [← hxt] at hb
          have hxl : xt.length ≤ 100 := by rw [hxt]; exact tAt_len R0 R1 R2 R3 hi
          k_steps
          unfold NxStop
          refine wp_callG (r := 0) (by omega) ?_
          refine c_quote (cx_callG (news := []) B1 X1 T1 F4 (fun _ h => nomatch h) rfl rfl) _ _ hxl fun t5 h5 tk5 k5 => ?_
          have F5 := F4.keeps k5
          have N5 := N4.grown k5
          clear N4 F4
          have wl := word_lt hi
          have hpi : pAt r1 r2 i = decide (dotS (nrmS xt) = gl) := by rw [hgl, hxt]; exact (right_iff R0 R1 R2 R3 wl.1 wl.2.1 wl.2.2).symm
          k_steps
          · unfold NxStop
            rename Fr _ _ _ _ => F6
            rename News _ _ _ _ => N6
            rename (dotS _ == gl) = true => hq
            exact PElt.intro F6 N6 _ (fun p hp => hp) off4 trivial (hxt ▸ hG.yes (by rw [hpi]; simpa using hq))
          · unfold NxStop
            rename Fr _ _ _ _ => F6
            rename News _ _ _ _ => N6
            rename (dotS _ == gl) = false => hq
            exact PElt.intro F6 N6 _ (fun p hp => hp) off4 trivial (hG.no (by rw [hpi]; simpa using hq))
        case finq =>
          rintro _ _ D2 h6 tk6 ⟨rfl, q, rfl, hq⟩ F6 N6 off6
          clear F11 N11 hTQ
          rw [due_is R1 R2] at hq
          have hql : q.length = (dueT r0 r1 r2 r3).length := by rw [← hq, List.length_map]
          k_steps
          unfold NxStop
          rename Fr _ _ _ _ => F7
          rename News _ _ _ _ => N7
          refine wp_callG (r := 0) (by omega) ?_
          refine c_size (l := q) (cx_callG (news := []) B1 X1 T1 F7 (fun _ h => nomatch h) rfl rfl) (PySem.IsL.isList (N7 _ (.head _)).1) (by rw [hql]; exact OL.2.1) (by rw [hql]; exact OL.2.2.1) (q_len R0 R1 R2 R3 (hq.trans (due_is R1 R2).symm)) (by rw [hq]; exact OL.1) fun Ri qr cr h8 tk8 k8 nRi gRi hqr => ?_
          obtain ⟨F8, N8, off8⟩ := news_new F7 N7 k8 nRi gRi
          rw [hq] at hqr
          clear F7 N7 k8 nRi gRi
          have N9 : News g' L h8 ((Ri, W.listOf (strValues qr).toArray cr) :: (Du, W.listOf (strValues qd).toArray cd) :: K6 []) := pickn N8 [0, 2, 5, 6, 7, 8, 9, 10]
          clear N8 off8 hq hql off6 q hps hitsP offP off oT hWT
          k_steps
          unfold NxStop
          refine storeX_L F8 N9 fun h10 F10 N10 => ?_
          clear F8 N9
          k_steps
          unfold NxStop
          refine strs_ne (PySem.IsL.isList (N10 _ (.head _)).1) (PySem.IsL.isList (N10 _ (.tail _ (.head _))).1) (by rw [hqr]; exact due_ok R0 R1 R2 R3) (by rw [hqd]; exact due_ok R0 R1 R2 R3) (Nat.le_of_ble_eq_true rfl) ?_
          rw [hqr, hqd, decide_eq_true rfl]
          have N11 : News g' L h10 ((Du, W.listOf (strValues qd).toArray cd) :: K6 []) := fun p hp => N10 p (.tail _ hp)
          clear N10 off9
          k_steps
          unfold NxStop
          refine wp_callG (r := 3) (by omega) ?_
          refine c_heads (E' := endS) (R' := RS r0 r1 r2 r3) (cx_callG (news := []) B1 X1 T1 F10 (fun _ h => nomatch h) rfl rfl) (PySem.IsL.isList (N11 _ (.tail _ (.tail _ (.head _)))).1) (PySem.IsL.isList (hmk ▸ (N11 _ (.tail _ (.head _))).1)) R0.len R1.len R2.len R3.len (end_len 0 (by decide)) (end_len 1 (by decide)) (end_len 2 (by decide)) (fun _ _ => rfl) (fun _ _ => rfl) fun Ta la hv Wt h12 tk12 k12 hWt hHd loT => ?_
          have F12 := F10.keeps k12
          have N12 : News g' L h12 ((Du, W.listOf (strValues qd).toArray cd) :: K6 Wt) := news_more F10 N11 k12 hWt
          have TaL : Ta ≠ L := fun e => by
            have H := hHd (hideAll h12 [L]) fun p hp => hideAll_get _ (hWt p hp).1 (by
              have z := (N12 p (.tail _ (.tail _ (.tail _ (.tail _ (.tail _ (.tail _ (.tail _ hp)))))))).2.1
              simpa using z)
            obtain ⟨o, _, _, ho, _⟩ := H.dict
            rw [e, hideAll_none _ (List.mem_singleton.mpr rfl)] at ho
            cases ho
          clear F10 N11 k12 hWt
          k_steps
          unfold NxStop
          refine storeX_L F12 N12 fun h13 F13 N13 => ?_
          clear F12 N12
          k_steps
          unfold NxStop
          rename Fr _ _ _ _ => F14
          rename News _ _ _ _ => N14
          have hdT : Heads w h13 Ta la hv (fun i => (hsB (decide (r1 = Str.ofString "")) (decide (r2 = Str.ofString "")) i).map fun p : Nat => (p : Int)) := by
            have H := hHd h13 fun p hp => (N14 p (.tail _ (.tail _ (.tail _ (.tail _ (.tail _ (.tail _ (.tail _ hp)))))))).1
            refine ⟨H.dict, fun i hi => ⟨(H.list i hi).1, ?_⟩⟩
            have e := heads_are (R := RS r0 r1 r2 r3) R1 R2 i hi
            exact e ▸ (H.list i hi).2
          refine wp_callG (r := 4) (by omega) ?_
          refine c_counted (base := g') (cx_callG (news := []) B1 X1 T1 F14 (fun _ h => nomatch h) rfl rfl) X1 T1 (dicts_push (A := []) ktsDicts_nil F14 N14 (fun x h => nomatch h) rfl) loT hdT (cntB _ _) (fun hm => TaL (List.mem_singleton.mp hm)) fun g₁ h15 tk15 T ro tt cc qs hT15 k15 hh15 hq3 hqi => ?_
          obtain ⟨g7, G7, F15, N15f⟩ := turned (A := []) B1 X1 T1 ktsDicts_nil F14 N14 (fun x h => nomatch h) hT15 k15 rfl
          rw [show wyB (decide (r1 = Str.ofString "")) (decide (r2 = Str.ofString "")) 6 + wyB (decide (r1 = Str.ofString "")) (decide (r2 = Str.ofString "")) 7 + wyB (decide (r1 = Str.ofString "")) (decide (r2 = Str.ofString "")) 8 = manyZ r1 r2 from many_is r1 r2] at hh15
          obtain ⟨a0, v0, c0, a1, v1, c1, a2, v2, c2, rfl⟩ : ∃ a0 v0 c0 a1 v1 c1 a2 v2 c2, qs = [(a0, v0, c0), (a1, v1, c1), (a2, v2, c2)] := by
            obtain ⟨x, y, z, rfl⟩ := list3 hq3
            exact ⟨x.1, x.2.1, x.2.2, y.1, y.2.1, y.2.2, z.1, z.2.1, z.2.2, rfl⟩
          obtain ⟨x0, x1, x2, rfl⟩ : ∃ x0 x1 x2, v0 = [.int 0 x0, .int 1 x1, .int 2 x2] := by
            have h := hqi 0 _ rfl
            cases h with | cons _ u0 h => cases h with | cons _ u1 h => cases h with | cons _ u2 h => cases h; exact ⟨u0, u1, u2, rfl⟩
          obtain ⟨y0, y1, y2, rfl⟩ : ∃ y0 y1 y2, v1 = [.int 3 y0, .int 4 y1, .int 5 y2] := by
            have h := hqi 1 _ rfl
            cases h with | cons _ u0 h => cases h with | cons _ u1 h => cases h with | cons _ u2 h => cases h; exact ⟨u0, u1, u2, rfl⟩
          obtain ⟨z0, z1, z2, rfl⟩ : ∃ z0 z1 z2, v2 = [.int 6 z0, .int 7 z1, .int 8 z2] := by
            have h := hqi 2 _ rfl
            cases h with | cons _ u0 h => cases h with | cons _ u1 h => cases h with | cons _ u2 h => cases h; exact ⟨u0, u1, u2, rfl⟩
          clear hqi hq3
          obtain ⟨mz, hmz⟩ : ∃ mz, mz = manyZ r1 r2 := ⟨_, rfl⟩
          rw [← hmz] at hh15
          have N16 : News g7 L h15 ((T, ({ cls := .type "tuple", data := .seq #[.ref ro, .int mz tt] } : Obj)) :: (ro, W.listOf #[.ref a0, .ref a1, .ref a2] cc) :: (a0, W.listOf #[.int 0 x0, .int 1 x1, .int 2 x2] c0) :: (a1, W.listOf #[.int 3 y0, .int 4 y1, .int 5 y2] c1) :: (a2, W.listOf #[.int 6 z0, .int 7 z1, .int 8 z2] c2) :: (Du, W.listOf (strValues qd).toArray cd) :: K6 Wt) := by
            have new : ∀ {p : Addr × Obj}, h15.get? p.1 = some p.2 ∧ h13.get? p.1 = none → (h15.get? p.1 = some p.2 ∧ (hideAll h13 []).get? p.1 = none ∧ p.1 ∉ ([] : List Addr)) := fun z => ⟨z.1, z.2, List.not_mem_nil⟩
            exact N15f _ (all_cons (.inr (.inr (new (hh15 _ (.head _))))) (all_cons (.inr (.inr (new (hh15 _ (.tail _ (.head _)))))) (all_cons (.inr (.inr (new (hh15 _ (.tail _ (.tail _ (.head _))))))) (all_cons (.inr (.inr (new (hh15 _ (.tail _ (.tail _ (.tail _ (.head _)))))))) (all_cons (.inr (.inr (new (hh15 _ (.tail _ (.tail _ (.tail _ (.tail _ (.head _))))))))) fun p hp => .inl ⟨hp, List.not_mem_nil⟩)))))
          obtain ⟨hT7, B7, X7, P7, D7⟩ := id G7
          clear N15f hh15 k15 hT15 N14 F14 hdT
          k_steps
          unfold NxStop
          rename Fr _ _ _ _ => F17
          rename News _ _ _ _ => N17
          refine storeX_L F17 N17 fun h18 F18 N18 => ?_
          clear F17 N17
          k_steps
          unfold NxStop
          rename Fr _ _ _ _ => F19
          rename News _ _ _ _ => N19
          refine storeX_L F19 N19 fun h20 F20 N20 => ?_
          clear F19 N19
          k_steps
          unfold NxStop
          refine ne_dataH (by ke_read) (by ke_read) (by ke_shaped) (by ke_shaped) (by ke_room) ?_
          ke_norm
          rename Fr _ _ _ _ => F21
          rename News _ _ _ _ => N21
          have N22 : News g7 L _ ((Du, W.listOf (strValues qd).toArray cd) :: K6 Wt) := fun p hp => N21 p (.tail _ (.tail _ (.tail _ (.tail _ (.tail _ (.tail _ (.tail _ (.tail _ (.tail _ hp)))))))))
          clear N21
          k_steps
          unfold NxStop
          refine wp_callG (r := 0) (by omega) ?_
          refine c_many (cx_callG (news := []) B7 X7 P7 F21 (fun _ h => nomatch h) rfl rfl) (PySem.IsL.isList (N22 _ (.tail _ (.tail _ (.head _)))).1) R0.len R1.len R2.len R3.len fun t23 h23 tk23 k23 => ?_
          have F23 := F21.keeps k23
          have N23 := N22.grown k23
          clear F21 N22 k23
          rw [← hmz]
          k_steps
          · rename ¬ mz = mz => hne
            exact absurd rfl hne
          unfold NxStop
          refine wp_callG (r := 3) (by omega) ?_
          refine c_shortest (P := PA r0 r1 r2 r3) (n := 60) (cx_callG (news := []) B7 X7 P7 F23 (fun _ h => nomatch h) rfl rfl) (PySem.IsL.isList (N23 _ (.tail _ (.tail _ (.head _)))).1) (PySem.IsL.isList (hmk ▸ (N23 _ (.tail _ (.head _))).1)) (hHd h23 fun p hp => (N23 p (.tail _ (.tail _ (.tail _ (.tail _ (.tail _ (.tail _ (.tail _ hp)))))))).1) R0.len R1.len R2.len R3.len (end_len 0 (by decide)) (end_len 1 (by decide)) (end_len 2 (by decide)) (fun _ _ => rfl) (fun _ _ => rfl) (fun _ _ _ => rfl) OL.2.2.2 fun Fo qf cf h24 tk24 k24 nFo gFo hqf => ?_
          obtain ⟨F24, N24, off24⟩ := news_new F23 N23 k24 nFo gFo
          clear F23 N23 k24 nFo gFo off24
          k_steps
          unfold NxStop
          rename Fr _ _ _ _ => F25
          rename News _ _ _ _ => N25
          refine strs_eq (PySem.IsL.isList (N25 _ (.head _)).1) (PySem.IsL.isList (N25 _ (.tail _ (.head _))).1) (by rw [hqf]; exact due_ok R0 R1 R2 R3) (by rw [hqd]; exact due_ok R0 R1 R2 R3) (Nat.le_of_ble_eq_true rfl) ?_
          rw [hqf, hqd, decide_eq_true rfl]
          exact ret _ _ fun b o e => F25.keep b o (hT7.other b o e List.not_mem_nil)
end
end Mine
end
section
open PySem PySem.W PyProof.Rows
theorem Mine.anew21 {M : Model} {A : Around} {env : Env} {Q : Flow → Shared → Prop} {E : Value → Shared → Prop} {s : Shared} (h : wpAny M A (execs [] env) Q E s) : wpAny M A (execs [] env) Q E s := by first | (walk1; done) | exact h
end
section
open PySem PySem.W PyProof.Rows PySem.Calls PyProof.Rows.LCg
set_option maxHeartbeats 4000000
namespace Mine
theorem law_join (LW : ∀ {w : World} {mean : ExcName → Option Value} {mg mb : Str → Option Value} {g : Heap} {gs : Array GenState} {dr : Drawn} {tk : Nat} {os : OsState} {Q E : Value → Shared → Prop} {sa : Addr} {vs : List Value} {ns : List Int}, Cx w mean mg mb 5 g [] g → g.IsList sa vs.toArray → IntsAre vs ns → ns.length ≤ 63 →
   (∀ h' tk', Keeps g h' → Q (.bool true) ⟨h', gs, dr, tk', os⟩) → wpAny (model Challenge.rw_ny0273_01.row.prog w) (AA 5 []) (call (.ref 263) [.ref sa]) Q E ⟨g, gs, dr, tk, os⟩) : PySem.Challenge.rw_ny0273_01.Holds := by
  refine holds_law (by rw [PySem.W.Fast.te9446332074065402090]; kernel_rfl) fun said => ?_
  refine holds_open (q := viewP) (loose := looseK) (Xt := fun s => xlAt viewP [] s && recOk (RowW.records (OpenRow.toRowW Challenge.rw_ny0273_01.row)) s) (XP := XL viewP []) (Yf := Hook.obs hookK) (Ya := Hook.val hookK) (YP := Hook.says hookK) (N := 3476) left_all (Hook.of hookK) (Hook.keeps hookK) (fun s e => xl_of s (Bool.and_eq_true_iff.mp e).1) XL.keeps (by rfl) (by rfl) (by rfl) (fun s e => recFacts_of (Bool.and_eq_true_iff.mp e).2) (by rfl) said (by decide +kernel) ⟨rfl, rfl, rfl, rfl, rfl, by decide +kernel⟩ ?hw ?hc
  case hw => w_witness2
  k_fill
  intro w s₀ s₁ mg mb G Y fa o pm cd doc dV kV ho hd hcd hD hmg hg args vals as hpre hlay hrd hwl hlo
  have KX := kIn_of Y
  refine Ground.open G ?_
  intro T B D TE TW
  have e : mg (Str.ofString "law") = some (.ref 263) := mg_of KX T.g (by kernel_rfl)
  have e2 := hmg.symm.trans e
  cases e2
  clear hmg hD hcd hd ho e
  wrow_args hpre hlay hrd hwl hlo
  rename_i ns _ _ _ _ _ _ _ sa vs _ hL _ _ _ hI _ hc _
  have hc' : ns.length ≤ 63 := by omega
  refine wp_weaken (A := callerA) 400 4000 (LW (w := w) (g := s₁.heap) (ns := ns) ⟨⟨rfl, fun _ _ e => e, trivial⟩, KX, T⟩ hL hI hc' fun h' tk' k => ?_) (by decide) (by decide)
  refine GoodW.toG ⟨.inl ⟨_, .bool true, [], rfl, raisesW_false ?_, .bool _, ?_, fun _ => ⟨List.nodup_nil, fun _ h => nomatch h⟩⟩, k, rfl, hg⟩
  · wrow_none_raised
  · wrow_post
end Mine
end
open PySem PySem.W PyProof.Rows
set_option maxHeartbeats 4000000 in
theorem PySem.Challenge.cw_ny0273_01_holds : PySem.Challenge.rw_ny0273_01.Holds := by
  exact Mine.law_join (fun C hL hI hc ret => Mine.c_law C hL hI hc ret)
